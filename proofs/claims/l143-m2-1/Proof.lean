import JvmDerived
import JvmDerived.Pilot.@@N@@Statement
import JvmDerived.Pilot.@@N@@Code
set_option linter.unusedVariables false
set_option linter.unusedSimpArgs false
namespace Jvm.Pilot.@@N@@
open Jvm Jvm.ClassFile Sem Op Lib Jvm.Free Jvm.Stand Jvm.LawKit Jvm.RoadKit Bundle Jvm.Pilot.@@N@@.Jvm.D
section OwnKit
variable {p : Program} {l : Launch} {e : Env} {R : Room} {s : State} {m : MethodId} {args : Array Value} {below : List Frame} {meth : Method} {c : Code} {T : State} {locs : List Loc} {cells slots : Nat}
/-- from T with the frame F on top the body ends, and its end is as P says -/
def Rch (p : Program) (e : Env) (below : List Frame) (T : State) (F : JFrame) (P : Outcome → State → Prop) : Prop := ∃ s₂ o, Steps p.tables e below (T.setTop F) s₂ ∧ s₂.status = .running ∧ Ended s₂ below o ∧ P o s₂
theorem Rch.st {P : Outcome → State → Prop} {T T' : State} {F F' : JFrame} (k : ∀ t, Steps p.tables e below (T'.setTop F') t → Steps p.tables e below (T.setTop F) t) (h : Rch p e below T' F' P) : Rch p e below T F P :=
  let ⟨a, o, h1, h2⟩ := h
  ⟨a, o, k _ h1, h2⟩
theorem Rch.sq {P : Outcome → State → Prop} {T T' : State} {F F' : JFrame} (k : Steps p.tables e below (T.setTop F) (T'.setTop F')) (h : Rch p e below T' F' P) : Rch p e below T F P := Rch.st (fun _ q => k.trans q) h
theorem Rch.cast {P : Outcome → State → Prop} {T : State} {F F' : JFrame} (q : F = F') (h : Rch p e below T F' P) : Rch p e below T F P := q ▸ h
/-- a return, as a contract says it -/
def FinP (s : State) (Q : Option Value → Heap → List Loc → Prop) (K N : Nat) (o : Outcome) (U : State) : Prop := ∃ v L, o = .returned v ∧ Q v U.heap L ∧ FrameEnd s o U L K N
theorem Rch.retV (X : Stand p l e R s m args below meth c T locs cells slots) (hx : p.tables.exec = Jvm.exec) {pc : Nat} {Ls : Array Slot} {w : Value} {t : FieldType} {i : Instr} {rest : List Value} {Q : Option Value → Heap → List Loc → Prop} {K N : Nat} (hret : meth.sig.returnType = some t) (hn : narrow t w = w)
    (hi : (i = .ireturn ∧ (t = .int ∨ t = .boolean ∨ t = .byte ∨ t = .char ∨ t = .short) ∧ ∃ z, w = .int z) ∨ (i = .lreturn ∧ t = .long ∧ ∃ z, w = .long z) ∨ (i = .dreturn ∧ t = .double ∧ ∃ z, w = .double z) ∨ (i = .freturn ∧ t = .float ∧ ∃ z, w = .float z) ∨ (i = .areturn ∧ t.isReference = true ∧ w.isRef = true))
    (hd : decode c.code pc = .ok (i, 1)) (hq : Q (some w) T.heap locs) (hk : cells ≤ K) (hs : slots ≤ N) (hlocks : meth.locks = false := by first | assumption | exact BodyLoose.notSynchronized (by assumption) | exact Body.notSynchronized (by assumption)) : Rch p e below T (mkF m pc Ls (w :: rest)) (FinP s Q K N) := by
  obtain ⟨fs, hr, hrun, hended, hW, hsame⟩ := X.leave (v := some w) (fun h => by rw [hret] at h; cases h) hlocks
  exact ⟨_, _, retOut X hx hret hn hi hd hr, hrun, hended, _, _, rfl, hq, ⟨_, rfl⟩, hW, hsame.mono hk hs⟩
theorem Rch.ret0 (X : Stand p l e R s m args below meth c T locs cells slots) (hx : p.tables.exec = Jvm.exec) {pc : Nat} {Ls : Array Slot} {Q : Option Value → Heap → List Loc → Prop} {K N : Nat} (hret : meth.sig.returnType = none)
    (hd : decode c.code pc = .ok (.return_, 1)) (hq : Q none T.heap locs) (hk : cells ≤ K) (hs : slots ≤ N) (hlocks : meth.locks = false := by first | assumption | exact BodyLoose.notSynchronized (by assumption) | exact Body.notSynchronized (by assumption)) : Rch p e below T (mkF m pc Ls []) (FinP s Q K N) := by
  obtain ⟨fs, hr, hrun, hended, hW, hsame⟩ := X.leave (v := none) (fun _ => rfl) hlocks
  exact ⟨_, _, X.returnOut hx hret hd hr, hrun, hended, _, _, rfl, hq, ⟨_, rfl⟩, hW, hsame.mono hk hs⟩
theorem Rnar {t : FieldType} {w : Value} (h : w.isRef = true) : narrow t w = w := by cases w <;> first | (cases t <;> rfl) | (simp [Value.isRef] at h)
theorem Rfit {t : FieldType} {w : Value} (ht : t.isReference = true) (h : w.isRef = true) : fits t w = true := by cases t <;> first | (cases ht; done) | (cases w <;> simp [Value.isRef, fits] at h ⊢)
theorem own_selP {args : Array Value} {y : MethodName} {n : Nat} (wi : (Cond.instantiable y.cls n).before args s = true) (hpriv : s.PrivateAt y) (hinst : (Cond.instanceMethod y).before args s = true) (hy : y.cls ≠ "java/lang/invoke/MethodHandle" ∧ y.cls ≠ "java/lang/invoke/VarHandle") : (Cond.selects y.cls y y).before args s = true := by
  obtain ⟨c2, k2, i1, i2, i3, i4⟩ := Cond.instantiable_spec wi
  exact selects_self_of_private i1 i2 (by simp_all) hpriv hinst hy
theorem lremM {g : JFrame} {target : State} (X : Stand p l e R s m args below meth c T locs cells slots) (hx : p.tables.exec = Jvm.exec) (hg : g.method = m) {x y : Int64} {rest : List Value} (hd : decode c.code g.pc = .ok (.lrem, 1)) (hs : g.stack = .long y :: .long x :: rest) (hy : y ≠ 0)
    (hr : Steps p.tables e below (T.setTop { g with pc := g.pc + 1, stack := .long (x % y) :: rest }) target) : Steps p.tables e below (T.setTop g) target := XT.lrem X.here hx hg hd hs hy (by rw [lrem_mod]; exact hr)
theorem ldc2D {g : JFrame} {target : State} (X : Stand p l e R s m args below meth c T locs cells slots) (hx : p.tables.exec = Jvm.exec) {own : String} {index : Nat} {b : UInt64} (hown : s.vm.findClass own = some m.cls) (hconst : (Cond.constantDouble own index b).before args s = true) (hg : g.method = m) (hd : decode c.code g.pc = .ok (.ldc2_w index, 3))
    (hr : Steps p.tables e below (T.setTop { g with pc := g.pc + 3, stack := .double b :: g.stack }) target) : Steps p.tables e below (T.setTop g) target := X.ldc2DoubleC hx hown hconst hg hd target hr
theorem own_face {args : Array Value} {C : String} {x z : MethodName} (hsel : (Cond.selects C x z).before args s = true) : ∃ mk k, s.methodNamed? z = some mk ∧ s.vm.classes[mk.cls]? = some k ∧ k.isInterface = false := by
  obtain ⟨c2, r2, m2, -, -, q3, -, kP, hkP, hkPi⟩ := Cond.selects_spec hsel
  exact ⟨_, kP, q3, hkP, hkPi⟩
theorem own_nf {args : Array Value} {C : String} {x y z : MethodName} (hsel : (Cond.selects C x z).before args s = true) (hz : z.cls = y.cls) : NotFace s y := fun r0 h0 => by
  obtain ⟨mk, k, h1, h2, h3⟩ := own_face hsel
  have hc1 := findClass_of_methodNamed h1
  have hc2 := findClass_of_methodNamed h0
  rw [hz, hc2] at hc1
  have e : r0.cls = mk.cls := Option.some.inj hc1
  exact ⟨k, by rw [e]; exact h2, h3⟩
theorem own_selQ {args : Array Value} {C : String} {x y : MethodName} (hsel : (Cond.selects C x y).before args s = true) (hpriv : s.PrivateAt y) (hinst : (Cond.instanceMethod y).before args s = true) (hy : y.cls ≠ "java/lang/invoke/MethodHandle" ∧ y.cls ≠ "java/lang/invoke/VarHandle") : (Cond.selects y.cls y y).before args s = true := by
  obtain ⟨mk, k, h1, h2, h3⟩ := own_face hsel
  exact selects_self_of_private (findClass_of_methodNamed h1) h2 h3 hpriv hinst hy
theorem own_sameM {args : Array Value} {C : String} {x y z : MethodName} (hsel : (Cond.selects C x z).before args s = true) (hz : z.cls = y.cls) (hinst : (Cond.instanceMethod y).before args s = true) (hy : y.cls ≠ "java/lang/invoke/MethodHandle" ∧ y.cls ≠ "java/lang/invoke/VarHandle") : (Cond.sameMethod y.cls y.cls y.name y.desc).before args s = true := by
  obtain ⟨mk, k, h1, h2, h3⟩ := own_face hsel
  obtain ⟨my, methM, hnamed, hmethM, -, -⟩ := Cond.instanceMethod_spec hinst
  have hfound : s.methodFound? y.cls y.name y.desc = some my := State.methodFound?_of_named hnamed hy
  have hc1 := findClass_of_methodNamed h1
  have hc2 := findClass_of_methodNamed hnamed
  rw [hz, hc2] at hc1
  have e : my.cls = mk.cls := Option.some.inj hc1
  simp only [Cond.before, Cond.holds, Cond.value, hc2, hfound, show s.methodNamed? ⟨y.cls, y.name, y.desc⟩ = some my from hnamed, e, h2]
  simp [h3]
end OwnKit
/-- what stood at the start Z stands in h; whatever lies at or above n0 is new since then -/
def OldL (Z : State) (n0 : Nat) (h : Heap) : Prop := Z.heap.size ≤ n0 ∧ Ext Z.heap h
theorem OldL.start (s : State) : OldL s s.heap.size s.heap := ⟨Nat.le_refl _, Nat.le_refl _, fun _ _ q => q⟩
theorem OldL.ext {Z : State} {n0 : Nat} {h h' : Heap} (X : OldL Z n0 h) (E : Ext h h') : OldL Z n0 h' := ⟨X.1, Nat.le_trans X.2.1 E.1, fun x c q => E.2 x c (X.2.2 x c q)⟩
theorem OldL.keep {Z : State} {n0 : Nat} {h h' : Heap} {ws : List Addr} (X : OldL Z n0 h) (K : Keep h h' ws) (q : ∀ x ∈ ws, n0 ≤ x) : OldL Z n0 h' := ⟨X.1, Nat.le_trans X.2.1 K.1, fun x c r => K.2.1 x c (X.2.2 x c r) fun z => absurd (Nat.lt_of_lt_of_le (Array.getElem?_eq_some_iff.mp r).1 X.1) (Nat.not_lt.mpr (q x z))⟩
theorem OldL.wr {Z : State} {n0 : Nat} {h h' : Heap} {a : Addr} {sl : Nat} {v : Value} (X : OldL Z n0 h) (W : Wr h h' a sl v) (q : n0 ≤ a) : OldL Z n0 h' := X.keep (Keep.of_wr W) (allS q all0)
theorem OldL.up {Z : State} {n0 : Nat} {h : Heap} {k : Nat} (X : OldL Z n0 h) (q : n0 ≤ k) : OldL Z k h := ⟨Nat.le_trans X.1 q, X.2⟩
theorem own_Fr {k k' : Nat} {L : List Loc} (q : k ≤ k') (N : Fr k' L) : Fr k L := fun y hy => Nat.le_trans q (N y hy)
section OwnArr
variable {p : Program} {l : Launch} {e : Env} {R : Room} {s : State} {m : MethodId} {args : Array Value} {below : List Frame} {meth : Method} {c : Code} {T Z : State} {locs : List Loc} {cells slots : Nat} {h : Heap} {a : Addr} {k : ClassId} {n j x : Int32} {vs : List Value} {d v : Value} {g : JFrame} {rest : List Value} {target : State}
theorem own_alen {ty : FieldType} (X : Stand p l e R s m args below meth c T locs cells slots) (hx : p.tables.exec = Jvm.exec) (hZ : Z.Warmed39 s.vm) (eT : T.heap = h) (V : Arv Z h a k ty n vs d) (hg : g.method = m) (hs : g.stack = .ref a :: rest) (hd : decode c.code g.pc = .ok (.arraylength, 1))
    (hr : Steps p.tables e below (T.setTop { g with pc := g.pc + 1, stack := .int n :: rest }) target) : Steps p.tables e below (T.setTop g) target := by
  obtain ⟨cl, Ar, q, S, M, H, G⟩ := V
  refine X.arraylength hx (by rw [eT]; exact Ar.1) (State.isArrayOf_alike hZ.alike Ar.2.1) hg hs hd _ ?_
  rw [len_of S M]; exact hr
theorem own_ldB (X : Stand p l e R s m args below meth c T locs cells slots) (hx : p.tables.exec = Jvm.exec) (hZ : Z.Warmed39 s.vm) (eT : T.heap = h) (V : Arv Z h a k .byte n vs d) (hj : ¬ j < 0 ∧ j < n) (hv : vs.getD j.toNatClampNeg d = v) (hg : g.method = m) (hs : g.stack = .int j :: .ref a :: rest) (hd : decode c.code g.pc = .ok (.baload, 1))
    (hr : Steps p.tables e below (T.setTop { g with pc := g.pc + 1, stack := v :: rest }) target) : Steps p.tables e below (T.setTop g) target := by
  obtain ⟨cl, Ar, q, S, M, H, G⟩ := V
  exact X.baloadBytes hx (by rw [eT]; exact Ar.1) (State.isArrayOf_alike hZ.alike Ar.2.1) Ar.2.2 (inb_of S hj) (H.at (inb_of S hj) hv) hg hs hd _ hr
theorem own_ldC (X : Stand p l e R s m args below meth c T locs cells slots) (hx : p.tables.exec = Jvm.exec) (hZ : Z.Warmed39 s.vm) (eT : T.heap = h) (V : Arv Z h a k .char n vs d) (hj : ¬ j < 0 ∧ j < n) (hv : vs.getD j.toNatClampNeg d = v) (hg : g.method = m) (hs : g.stack = .int j :: .ref a :: rest) (hd : decode c.code g.pc = .ok (.caload, 1))
    (hr : Steps p.tables e below (T.setTop { g with pc := g.pc + 1, stack := v :: rest }) target) : Steps p.tables e below (T.setTop g) target := by
  obtain ⟨cl, Ar, q, S, M, H, G⟩ := V
  exact X.caload hx (by rw [eT]; exact Ar.1) (State.isArrayOf_alike hZ.alike Ar.2.1) Ar.2.2 (inb_of S hj) (H.at (inb_of S hj) hv) hg hs hd _ hr
theorem own_stC (X : Stand p l e R s m args below meth c T locs cells slots) (hx : p.tables.exec = Jvm.exec) (hZ : Z.Warmed39 s.vm) (eT : T.heap = h) (V : Arv Z h a k .char n vs d) (hj : ¬ j < 0 ∧ j < n) (i : Nat) (hi : j.toNatClampNeg = i) (hl : i < vs.length) (hg : g.method = m) (hs : g.stack = .int x :: .int j :: .ref a :: rest) (hd : decode c.code g.pc = .ok (.castore, 1)) :
    ∃ T' h', Stand p l e R s m args below meth c T' (locs ++ [⟨a, j.toNatClampNeg⟩]) cells slots ∧ T'.heap = h' ∧ Wr h h' a j.toNatClampNeg (.int (nar .char x)) ∧ Arv Z h' a k .char n (vs.set i (.int (nar .char x))) d ∧ ∀ target, Steps p.tables e below (T'.setTop { g with pc := g.pc + 1, stack := rest }) target → Steps p.tables e below (T.setTop g) target := by
  obtain ⟨cl, Ar, q, S, M, H, G⟩ := V
  obtain ⟨T', h', X', e', W, st⟩ := stC X hx hZ eT Ar (inb_of S hj) hg hs hd
  exact ⟨T', h', X', e', W, Arv.set Ar q S M H G (fits_nar_char _) W i hi hl, st⟩
theorem own_stB (X : Stand p l e R s m args below meth c T locs cells slots) (hx : p.tables.exec = Jvm.exec) (hZ : Z.Warmed39 s.vm) (eT : T.heap = h) (V : Arv Z h a k .byte n vs d) (hj : ¬ j < 0 ∧ j < n) (i : Nat) (hi : j.toNatClampNeg = i) (hl : i < vs.length) (hg : g.method = m) (hs : g.stack = .int x :: .int j :: .ref a :: rest) (hd : decode c.code g.pc = .ok (.bastore, 1)) :
    ∃ T' h', Stand p l e R s m args below meth c T' (locs ++ [⟨a, j.toNatClampNeg⟩]) cells slots ∧ T'.heap = h' ∧ Wr h h' a j.toNatClampNeg (.int x.toInt8.toInt32) ∧ Arv Z h' a k .byte n (vs.set i (.int x.toInt8.toInt32)) d ∧ ∀ target, Steps p.tables e below (T'.setTop { g with pc := g.pc + 1, stack := rest }) target → Steps p.tables e below (T.setTop g) target := by
  obtain ⟨cl, Ar, q, S, M, H, G⟩ := V
  obtain ⟨T', h', X', e', W, st⟩ := stB X hx hZ eT Ar (inb_of S hj) hg hs hd
  exact ⟨T', h', X', e', W, Arv.set Ar q S M H G (fits_nar_byte _) W i hi hl, st⟩
end OwnArr
section OwnSteps
variable {p : Program} {l : Launch} {e : Env} {R : Room} {s : State} {m : MethodId} {args : Array Value} {below : List Frame} {meth : Method} {c : Code} {T : State} {locs : List Loc} {cells slots : Nat} {b : ByteArray} {P : Outcome → State → Prop} {Ls l' : Array Slot} {st : List Value} {pc : Nat}
theorem w_iloadN {pc' : Nat} {k : Fin 4} {v : Int32} (X : Stand p l e R s m args below meth c T locs cells slots) (hx : p.tables.exec = Jvm.exec) (hby : c.code = b) (hd : decode b pc = .ok (.iload_n k, 1)) (hl : Ls[k.val]? = some (.val (.int v))) (hp : pc + 1 = pc') (H : Rch p e below T (mkF m pc' Ls (.int v :: st)) P) : Rch p e below T (mkF m pc Ls st) P := by subst hp; exact Rch.st (fun _ q => XS.iloadN X.here hx rfl (hb hby hd) hl q) H
theorem w_iload {pc' : Nat} {k : Nat} {v : Int32} (X : Stand p l e R s m args below meth c T locs cells slots) (hx : p.tables.exec = Jvm.exec) (hby : c.code = b) (hd : decode b pc = .ok (.iload k, 2)) (hl : Ls[k]? = some (.val (.int v))) (hp : pc + 2 = pc') (H : Rch p e below T (mkF m pc' Ls (.int v :: st)) P) : Rch p e below T (mkF m pc Ls st) P := by subst hp; exact Rch.st (fun _ q => XS.iload X.here hx rfl (hb hby hd) hl q) H
theorem w_istoreN {pc' : Nat} {k : Fin 4} {v : Int32} (X : Stand p l e R s m args below meth c T locs cells slots) (hx : p.tables.exec = Jvm.exec) (hby : c.code = b) (hd : decode b pc = .ok (.istore_n k, 1)) (hl : storeLocals Ls k.val (.int v) = some l') (hp : pc + 1 = pc') (H : Rch p e below T (mkF m pc' l' st) P) : Rch p e below T (mkF m pc Ls (.int v :: st)) P := by subst hp; exact Rch.st (fun _ q => XS.istoreN X.here hx rfl (hb hby hd) rfl hl q) H
theorem w_istore {pc' : Nat} {k : Nat} {v : Int32} (X : Stand p l e R s m args below meth c T locs cells slots) (hx : p.tables.exec = Jvm.exec) (hby : c.code = b) (hd : decode b pc = .ok (.istore k, 2)) (hl : storeLocals Ls k (.int v) = some l') (hp : pc + 2 = pc') (H : Rch p e below T (mkF m pc' l' st) P) : Rch p e below T (mkF m pc Ls (.int v :: st)) P := by subst hp; exact Rch.st (fun _ q => XS.istore X.here hx rfl (hb hby hd) rfl hl q) H
theorem w_aloadN {pc' : Nat} {k : Fin 4} {v : Value} (X : Stand p l e R s m args below meth c T locs cells slots) (hx : p.tables.exec = Jvm.exec) (hby : c.code = b) (hd : decode b pc = .ok (.aload_n k, 1)) (hl : Ls[k.val]? = some (.val v)) (hv : v.isRef = true) (hp : pc + 1 = pc') (H : Rch p e below T (mkF m pc' Ls (v :: st)) P) : Rch p e below T (mkF m pc Ls st) P := by subst hp; exact Rch.st (fun _ q => XS.aloadN X.here hx rfl (hb hby hd) hl hv q) H
theorem w_aload {pc' : Nat} {k : Nat} {v : Value} (X : Stand p l e R s m args below meth c T locs cells slots) (hx : p.tables.exec = Jvm.exec) (hby : c.code = b) (hd : decode b pc = .ok (.aload k, 2)) (hl : Ls[k]? = some (.val v)) (hv : v.isRef = true) (hp : pc + 2 = pc') (H : Rch p e below T (mkF m pc' Ls (v :: st)) P) : Rch p e below T (mkF m pc Ls st) P := by subst hp; exact Rch.st (fun _ q => XS.aload X.here hx rfl (hb hby hd) hl hv q) H
theorem w_astoreN {pc' : Nat} {k : Fin 4} {v : Value} (X : Stand p l e R s m args below meth c T locs cells slots) (hx : p.tables.exec = Jvm.exec) (hby : c.code = b) (hd : decode b pc = .ok (.astore_n k, 1)) (hv : v.isRef = true) (hl : storeLocals Ls k.val v = some l') (hp : pc + 1 = pc') (H : Rch p e below T (mkF m pc' l' st) P) : Rch p e below T (mkF m pc Ls (v :: st)) P := by subst hp; exact Rch.st (fun _ q => XS.astoreN X.here hx rfl (hb hby hd) rfl hv hl q) H
theorem w_astore {pc' : Nat} {k : Nat} {v : Value} (X : Stand p l e R s m args below meth c T locs cells slots) (hx : p.tables.exec = Jvm.exec) (hby : c.code = b) (hd : decode b pc = .ok (.astore k, 2)) (hv : v.isRef = true) (hl : storeLocals Ls k v = some l') (hp : pc + 2 = pc') (H : Rch p e below T (mkF m pc' l' st) P) : Rch p e below T (mkF m pc Ls (v :: st)) P := by subst hp; exact Rch.st (fun _ q => XS.astore X.here hx rfl (hb hby hd) rfl hv hl q) H
theorem w_iconst {pc' : Nat} {i : Int} {v : Int32} (X : Stand p l e R s m args below meth c T locs cells slots) (hx : p.tables.exec = Jvm.exec) (hby : c.code = b) (hd : decode b pc = .ok (.iconst i, 1)) (hv : Int32.ofInt i = v) (hp : pc + 1 = pc') (H : Rch p e below T (mkF m pc' Ls (.int v :: st)) P) : Rch p e below T (mkF m pc Ls st) P := by subst hp hv; exact Rch.st (fun _ q => XS.iconst X.here hx rfl (hb hby hd)  q) H
theorem w_bipush {pc' : Nat} {i : Int} {v : Int32} (X : Stand p l e R s m args below meth c T locs cells slots) (hx : p.tables.exec = Jvm.exec) (hby : c.code = b) (hd : decode b pc = .ok (.bipush i, 2)) (hv : (Int8.ofInt i).toInt32 = v) (hp : pc + 2 = pc') (H : Rch p e below T (mkF m pc' Ls (.int v :: st)) P) : Rch p e below T (mkF m pc Ls st) P := by subst hp hv; exact Rch.st (fun _ q => XS.bipush X.here hx rfl (hb hby hd)  q) H
theorem w_sipush {pc' : Nat} {i : Int} {v : Int32} (X : Stand p l e R s m args below meth c T locs cells slots) (hx : p.tables.exec = Jvm.exec) (hby : c.code = b) (hd : decode b pc = .ok (.sipush i, 3)) (hv : (Int16.ofInt i).toInt32 = v) (hp : pc + 3 = pc') (H : Rch p e below T (mkF m pc' Ls (.int v :: st)) P) : Rch p e below T (mkF m pc Ls st) P := by subst hp hv; exact Rch.st (fun _ q => XS.sipush X.here hx rfl (hb hby hd)  q) H
theorem w_aconstNull {pc' : Nat}  (X : Stand p l e R s m args below meth c T locs cells slots) (hx : p.tables.exec = Jvm.exec) (hby : c.code = b) (hd : decode b pc = .ok (.aconst_null, 1)) (hp : pc + 1 = pc') (H : Rch p e below T (mkF m pc' Ls (.null :: st)) P) : Rch p e below T (mkF m pc Ls st) P := by subst hp; exact Rch.st (fun _ q => XS.aconstNull X.here hx rfl (hb hby hd)  q) H
theorem w_iadd {pc' : Nat} {x y : Int32} (X : Stand p l e R s m args below meth c T locs cells slots) (hx : p.tables.exec = Jvm.exec) (hby : c.code = b) (hd : decode b pc = .ok (.iadd, 1)) (hp : pc + 1 = pc') (H : Rch p e below T (mkF m pc' Ls (.int (x + y) :: st)) P) : Rch p e below T (mkF m pc Ls (.int y :: .int x :: st)) P := by subst hp; exact Rch.st (fun _ q => XS.iadd X.here hx rfl (hb hby hd) rfl q) H
theorem w_isub {pc' : Nat} {x y : Int32} (X : Stand p l e R s m args below meth c T locs cells slots) (hx : p.tables.exec = Jvm.exec) (hby : c.code = b) (hd : decode b pc = .ok (.isub, 1)) (hp : pc + 1 = pc') (H : Rch p e below T (mkF m pc' Ls (.int (x - y) :: st)) P) : Rch p e below T (mkF m pc Ls (.int y :: .int x :: st)) P := by subst hp; exact Rch.st (fun _ q => XS.isub X.here hx rfl (hb hby hd) rfl q) H
theorem w_iand {pc' : Nat} {x y : Int32} (X : Stand p l e R s m args below meth c T locs cells slots) (hx : p.tables.exec = Jvm.exec) (hby : c.code = b) (hd : decode b pc = .ok (.iand, 1)) (hp : pc + 1 = pc') (H : Rch p e below T (mkF m pc' Ls (.int (x &&& y) :: st)) P) : Rch p e below T (mkF m pc Ls (.int y :: .int x :: st)) P := by subst hp; exact Rch.st (fun _ q => XS.iand X.here hx rfl (hb hby hd) rfl q) H
theorem w_ishr {pc' : Nat} {x y : Int32} (X : Stand p l e R s m args below meth c T locs cells slots) (hx : p.tables.exec = Jvm.exec) (hby : c.code = b) (hd : decode b pc = .ok (.ishr, 1)) (hp : pc + 1 = pc') (H : Rch p e below T (mkF m pc' Ls (.int (x >>> (y &&& 31)) :: st)) P) : Rch p e below T (mkF m pc Ls (.int y :: .int x :: st)) P := by subst hp; exact Rch.st (fun _ q => XT.ishr X.here hx rfl (hb hby hd) rfl q) H
theorem w_iushr {pc' : Nat} {x y : Int32} (X : Stand p l e R s m args below meth c T locs cells slots) (hx : p.tables.exec = Jvm.exec) (hby : c.code = b) (hd : decode b pc = .ok (.iushr, 1)) (hp : pc + 1 = pc') (H : Rch p e below T (mkF m pc' Ls (.int (XT.ushr x y) :: st)) P) : Rch p e below T (mkF m pc Ls (.int y :: .int x :: st)) P := by subst hp; exact Rch.st (fun _ q => XT.iushr X.here hx rfl (hb hby hd) rfl q) H
theorem w_irem {pc' : Nat} {x y : Int32} (X : Stand p l e R s m args below meth c T locs cells slots) (hx : p.tables.exec = Jvm.exec) (hby : c.code = b) (hd : decode b pc = .ok (.irem, 1)) (hy : y ≠ 0) (hp : pc + 1 = pc') (H : Rch p e below T (mkF m pc' Ls (.int (x % y) :: st)) P) : Rch p e below T (mkF m pc Ls (.int y :: .int x :: st)) P := by subst hp; exact Rch.st (fun _ q => iremM X hx rfl (hb hby hd) rfl hy q) H
theorem w_i2c {pc' : Nat} {x : Int32} (X : Stand p l e R s m args below meth c T locs cells slots) (hx : p.tables.exec = Jvm.exec) (hby : c.code = b) (hd : decode b pc = .ok (.i2c, 1)) (hp : pc + 1 = pc') (H : Rch p e below T (mkF m pc' Ls (.int (nar .char x) :: st)) P) : Rch p e below T (mkF m pc Ls (.int x :: st)) P := by subst hp; exact Rch.st (fun _ q => XT.i2c X.here hx rfl (hb hby hd) rfl q) H
theorem w_i2b {pc' : Nat} {x : Int32} (X : Stand p l e R s m args below meth c T locs cells slots) (hx : p.tables.exec = Jvm.exec) (hby : c.code = b) (hd : decode b pc = .ok (.i2b, 1)) (hp : pc + 1 = pc') (H : Rch p e below T (mkF m pc' Ls (.int (x.toInt8.toInt32) :: st)) P) : Rch p e below T (mkF m pc Ls (.int x :: st)) P := by subst hp; exact Rch.st (fun _ q => XT.i2b X.here hx rfl (hb hby hd) rfl q) H
theorem w_dup {pc' : Nat} {v : Value} (X : Stand p l e R s m args below meth c T locs cells slots) (hx : p.tables.exec = Jvm.exec) (hby : c.code = b) (hd : decode b pc = .ok (.dup, 1)) (hc : v.category = 1) (hp : pc + 1 = pc') (H : Rch p e below T (mkF m pc' Ls (v :: v :: st)) P) : Rch p e below T (mkF m pc Ls (v :: st)) P := by subst hp; exact Rch.st (fun _ q => XS.dup X.here hx rfl (hb hby hd) rfl hc q) H
theorem w_pop {pc' : Nat} {v : Value} (X : Stand p l e R s m args below meth c T locs cells slots) (hx : p.tables.exec = Jvm.exec) (hby : c.code = b) (hd : decode b pc = .ok (.pop, 1)) (hc : v.category = 1) (hp : pc + 1 = pc') (H : Rch p e below T (mkF m pc' Ls st) P) : Rch p e below T (mkF m pc Ls (v :: st)) P := by subst hp; exact Rch.st (fun _ q => XT.pop X.here hx rfl (hb hby hd) rfl hc q) H
theorem w_iinc {pc' : Nat} {k : Nat} {i : Int} {v : Int32} {w : Int32} (X : Stand p l e R s m args below meth c T locs cells slots) (hx : p.tables.exec = Jvm.exec) (hby : c.code = b) (hd : decode b pc = .ok (.iinc k i, 3)) (hl : Ls[k]? = some (.val (.int v))) (hw : v + Int32.ofInt i = w) (hs : storeLocals Ls k (.int w) = some l') (hp : pc + 3 = pc') (H : Rch p e below T (mkF m pc' l' st) P) : Rch p e below T (mkF m pc Ls st) P := by subst hp hw; exact Rch.st (fun _ q => XS.iinc X.here hx rfl (hb hby hd) hl hs q) H
theorem w_goto {pc' : Nat} {o : Int}  (X : Stand p l e R s m args below meth c T locs cells slots) (hx : p.tables.exec = Jvm.exec) (hby : c.code = b) (hd : decode b pc = .ok (.goto o, 3)) (ho : 0 ≤ (pc : Int) + o ∧ ((pc : Int) + o).toNat = pc') (H : Rch p e below T (mkF m pc' Ls st) P) : Rch p e below T (mkF m pc Ls st) P := Rch.st (fun _ q => XS.goto X.here hx rfl (pc0 := pc) rfl (hb hby hd)  ho.1 ho.2 q) H
theorem w_ifYes {pc' : Nat} {o : Int} {cd : ClassFile.Cond} {x : Int32} (X : Stand p l e R s m args below meth c T locs cells slots) (hx : p.tables.exec = Jvm.exec) (hby : c.code = b) (hd : decode b pc = .ok (.ifCond cd o, 3)) (hc : ifCond.holds cd x = true) (ho : 0 ≤ (pc : Int) + o ∧ ((pc : Int) + o).toNat = pc') (H : Rch p e below T (mkF m pc' Ls st) P) : Rch p e below T (mkF m pc Ls (.int x :: st)) P := Rch.st (fun _ q => XS.ifYes X.here hx rfl (pc0 := pc) rfl (hb hby hd) rfl hc ho.1 ho.2 q) H
theorem w_icmpYes {pc' : Nat} {o : Int} {cd : ClassFile.Cond} {x y : Int32} (X : Stand p l e R s m args below meth c T locs cells slots) (hx : p.tables.exec = Jvm.exec) (hby : c.code = b) (hd : decode b pc = .ok (.if_icmp cd o, 3)) (hc : if_icmp.holds cd x y = true) (ho : 0 ≤ (pc : Int) + o ∧ ((pc : Int) + o).toNat = pc') (H : Rch p e below T (mkF m pc' Ls st) P) : Rch p e below T (mkF m pc Ls (.int y :: .int x :: st)) P := Rch.st (fun _ q => XS.icmpYes X.here hx rfl (pc0 := pc) rfl (hb hby hd) rfl hc ho.1 ho.2 q) H
theorem w_ifNo {pc' : Nat} {o : Int} {cd : ClassFile.Cond} {x : Int32} (X : Stand p l e R s m args below meth c T locs cells slots) (hx : p.tables.exec = Jvm.exec) (hby : c.code = b) (hd : decode b pc = .ok (.ifCond cd o, 3)) (hc : ifCond.holds cd x = false) (hp : pc + 3 = pc') (H : Rch p e below T (mkF m pc' Ls st) P) : Rch p e below T (mkF m pc Ls (.int x :: st)) P := by subst hp; exact Rch.st (fun _ q => XS.ifNo X.here hx rfl (hb hby hd) rfl hc q) H
theorem w_icmpNo {pc' : Nat} {o : Int} {cd : ClassFile.Cond} {x y : Int32} (X : Stand p l e R s m args below meth c T locs cells slots) (hx : p.tables.exec = Jvm.exec) (hby : c.code = b) (hd : decode b pc = .ok (.if_icmp cd o, 3)) (hc : if_icmp.holds cd x y = false) (hp : pc + 3 = pc') (H : Rch p e below T (mkF m pc' Ls st) P) : Rch p e below T (mkF m pc Ls (.int y :: .int x :: st)) P := by subst hp; exact Rch.st (fun _ q => XS.icmpNo X.here hx rfl (hb hby hd) rfl hc q) H
theorem w_nullNo {pc' : Nat} {o : Int} {v : Value} (X : Stand p l e R s m args below meth c T locs cells slots) (hx : p.tables.exec = Jvm.exec) (hby : c.code = b) (hd : decode b pc = .ok (.ifnull o, 3)) (h1 : v.isRef = true) (hv : ¬ v = .null) (hp : pc + 3 = pc') (H : Rch p e below T (mkF m pc' Ls st) P) : Rch p e below T (mkF m pc Ls (v :: st)) P := by subst hp; exact Rch.st (fun _ q => XT.nullNo X.here hx rfl (hb hby hd) rfl h1 hv q) H
end OwnSteps
section OwnWide
variable {p : Program} {l : Launch} {e : Env} {R : Room} {s : State} {m : MethodId} {args : Array Value} {below : List Frame} {meth : Method} {c : Code} {T Z : State} {locs : List Loc} {cells slots : Nat} {vm1 : Vm} {Ts Ts' : List String} {a0 : Array Value} {h : Heap}
/-- a return under the wide frame -/
def FinW (s : State) (Q : Option Value → Heap → Vm → List Loc → Prop) (K N : Nat) (o : Outcome) (U : State) : Prop := ∃ v L, o = .returned v ∧ Q v U.heap U.vm L ∧ ReturnedEndW s o U L K N
theorem Rch.retVW (X : Stand p l e R (s.setVm vm1) m args below meth c T locs cells slots) (hx : p.tables.exec = Jvm.exec) {k0 : Nat} (hS : s.Since vm1 k0) (hk0 : k0 ≤ T.heap.size) {pc : Nat} {Ls : Array Slot} {w : Value} {t : FieldType} {i : Instr} {rest : List Value} {Q : Option Value → Heap → Vm → List Loc → Prop} {K N : Nat} (hret : meth.sig.returnType = some t) (hn : narrow t w = w)
    (hi : (i = .ireturn ∧ (t = .int ∨ t = .boolean ∨ t = .byte ∨ t = .char ∨ t = .short) ∧ ∃ z, w = .int z) ∨ (i = .lreturn ∧ t = .long ∧ ∃ z, w = .long z) ∨ (i = .dreturn ∧ t = .double ∧ ∃ z, w = .double z) ∨ (i = .freturn ∧ t = .float ∧ ∃ z, w = .float z) ∨ (i = .areturn ∧ t.isReference = true ∧ w.isRef = true))
    (hd : decode c.code pc = .ok (i, 1)) (hq : Q (some w) T.heap T.vm locs) (hk : cells ≤ K) (hs : slots ≤ N) (hlocks : meth.locks = false := by first | assumption | exact BodyLoose.notSynchronized (by assumption) | exact Body.notSynchronized (by assumption)) : Rch p e below T (mkF m pc Ls (w :: rest)) (FinW s Q K N) := by
  obtain ⟨fs, hr, hrun, hended, h1, h2, h3, h4⟩ := X.leaveW hS hk0 (v := some w) (fun h => by rw [hret] at h; cases h) hlocks
  exact ⟨_, _, retOut X hx hret hn hi hd hr, hrun, hended, _, _, rfl, hq, h1, h2, h3, h4.mono hk hs⟩
theorem Rch.ret0W (X : Stand p l e R (s.setVm vm1) m args below meth c T locs cells slots) (hx : p.tables.exec = Jvm.exec) {k0 : Nat} (hS : s.Since vm1 k0) (hk0 : k0 ≤ T.heap.size) {pc : Nat} {Ls : Array Slot} {Q : Option Value → Heap → Vm → List Loc → Prop} {K N : Nat} (hret : meth.sig.returnType = none)
    (hd : decode c.code pc = .ok (.return_, 1)) (hq : Q none T.heap T.vm locs) (hk : cells ≤ K) (hs : slots ≤ N) (hlocks : meth.locks = false := by first | assumption | exact BodyLoose.notSynchronized (by assumption) | exact Body.notSynchronized (by assumption)) : Rch p e below T (mkF m pc Ls []) (FinW s Q K N) := by
  obtain ⟨fs, hr, hrun, hended, h1, h2, h3, h4⟩ := X.leaveW hS hk0 (v := none) (fun _ => rfl) hlocks
  exact ⟨_, _, X.returnOut hx hret hd hr, hrun, hended, _, _, rfl, hq, h1, h2, h3, h4.mono hk hs⟩
theorem own_ib {vm : Vm} (I : IB Z s.vm Ts) (hW : s.WarmedH vm) : IB Z vm Ts := by
  obtain ⟨more, h1, h2⟩ := I
  exact ⟨more, by rw [hW.interned_eq]; exact h1, h2⟩
theorem own_ib_mono {vm : Vm} (I : IB Z vm Ts) (hs : ∀ t ∈ Ts, t ∈ Ts') : IB Z vm Ts' := by
  obtain ⟨more, h1, h2⟩ := I
  exact ⟨more, h1, fun q hq => let ⟨t, ht, hd⟩ := h2 q hq; ⟨t, hs t ht, hd⟩⟩
theorem backOfI {y : MethodName} {bytes : ByteArray} {maxL : Nat} {ret : Option FieldType} {rm : Room} {len W : Nat} {as' : Array Value} {Q : Option Value → Heap → Vm → List Loc → Prop}
    (hM : MetFree l y (head1 [Cond.code y bytes maxL ret] rm) (fun a U => a = as' ∧ Z.Warmed39 U.vm ∧ U.heap = h ∧ IB Z U.vm Ts) (fun _ _ _ _ _ => True) (fun _ U o U' => ∃ v L, o = .returned v ∧ Q v U'.heap U'.vm L ∧ ReturnedEndW U o U' L rm.cells rm.slots))
    (hZ : Z.Warmed39 s.vm) (hI : IB Z s.vm Ts) (wc : (Cond.code y bytes maxL ret).before a0 Z = true) (wz : (Cond.initialized y.cls).before a0 Z = true) (hf : rm.frames + 1 ≤ R.frames) (hl : W + (maxL + 11) + rm.locals ≤ R.locals) :
    BackS l R p e below s args y len W (fun A a => a = as' ∧ A.U.heap = h ∧ A.cells + rm.cells ≤ R.cells ∧ A.slots + rm.slots ≤ R.slots)
      (fun A _ v B => ∃ L, Q v B.U.heap B.U.vm L ∧ B.locs = A.locs ++ L ∧ B.cells = A.cells + rm.cells ∧ B.slots = A.slots + rm.slots) :=
  BackS.of_freeW (bytes := bytes) (maxL := maxL) (ret := ret) (E := fun _ _ o t L k n => k = rm.cells ∧ n = rm.slots ∧ ∃ v, o = .returned v ∧ Q v t.heap t.vm L) hM hf hl
    (fun m meth c A a Y hp => have hU : Z.Warmed39 A.U.vm := wtrans hZ Y.warmed
      ⟨by show (Cond.and _ .tt).before a A.U = true; rw [Cond.before_and, mv hU wc]; rfl, mv hU wc, mv hU wz, hp.2.2.1, hp.2.2.2⟩)
    (fun m meth c A a g mk Y hp => ⟨hp.1, wtrans hZ Y.warmed, hp.2.1, own_ib hI Y.warmed⟩) (fun _ _ _ _ _ _ _ _ _ => trivial)
    (fun _ _ _ _ ⟨v, L, h1, h2, h3⟩ => ⟨L, _, _, h3, rfl, rfl, v, h1, h2⟩)
    (fun m meth c A a g mk v t L k n Y hp _ _ ⟨e1, e2, v', e3, e4⟩ => by cases e3; subst e1 e2; exact ⟨L, e4, rfl, rfl, rfl⟩)
theorem backOfV {PV : Vm → Prop} {y : MethodName} {bytes : ByteArray} {maxL : Nat} {ret : Option FieldType} {rm : Room} {len W : Nat} {as' : Array Value} {Q : Option Value → Heap → Vm → List Loc → Prop}
    (hM : MetFree l y (head1 [Cond.code y bytes maxL ret] rm) (fun a U => a = as' ∧ Z.Warmed39 U.vm ∧ U.heap = h ∧ PV U.vm) (fun _ _ _ _ _ => True) (fun _ U o U' => ∃ v L, o = .returned v ∧ Q v U'.heap U'.vm L ∧ ReturnedEndW U o U' L rm.cells rm.slots))
    (hZ : Z.Warmed39 s.vm) (hI : ∀ vm, s.WarmedH vm → PV vm) (wc : (Cond.code y bytes maxL ret).before a0 Z = true) (wz : (Cond.initialized y.cls).before a0 Z = true) (hf : rm.frames + 1 ≤ R.frames) (hl : W + (maxL + 11) + rm.locals ≤ R.locals) :
    BackS l R p e below s args y len W (fun A a => a = as' ∧ A.U.heap = h ∧ A.cells + rm.cells ≤ R.cells ∧ A.slots + rm.slots ≤ R.slots)
      (fun A _ v B => ∃ L, Q v B.U.heap B.U.vm L ∧ B.locs = A.locs ++ L ∧ B.cells = A.cells + rm.cells ∧ B.slots = A.slots + rm.slots) :=
  BackS.of_freeW (bytes := bytes) (maxL := maxL) (ret := ret) (E := fun _ _ o t L k n => k = rm.cells ∧ n = rm.slots ∧ ∃ v, o = .returned v ∧ Q v t.heap t.vm L) hM hf hl
    (fun m meth c A a Y hp => have hU : Z.Warmed39 A.U.vm := wtrans hZ Y.warmed
      ⟨by show (Cond.and _ .tt).before a A.U = true; rw [Cond.before_and, mv hU wc]; rfl, mv hU wc, mv hU wz, hp.2.2.1, hp.2.2.2⟩)
    (fun m meth c A a g mk Y hp => ⟨hp.1, wtrans hZ Y.warmed, hp.2.1, hI _ Y.warmed⟩) (fun _ _ _ _ _ _ _ _ _ => trivial)
    (fun _ _ _ _ ⟨v, L, h1, h2, h3⟩ => ⟨L, _, _, h3, rfl, rfl, v, h1, h2⟩)
    (fun m meth c A a g mk v t L k n Y hp _ _ ⟨e1, e2, v', e3, e4⟩ => by cases e3; subst e1 e2; exact ⟨L, e4, rfl, rfl, rfl⟩)
/-- a booked literal stays booked, said of the start's state -/
theorem own_lit {own : String} {index : Nat} {a : Addr} {vm vm' : Vm} (L : Lit (Z.setVm vm) own index a) (hW : (s.setVm vm).Warmed39 vm') : Lit (Z.setVm vm') own index a := Lit.stays (s := s) (vm0 := vm) (vm1 := vm') L hW
end OwnWide
theorem nlt {a b c : Nat} (h : a < b) (k : b ≤ c) : a ≠ c := Nat.ne_of_lt (Nat.lt_of_lt_of_le h k)
theorem wi {Z : State} {a0 : Array Value} (hw : ∀ d ∈ tables_1, d.before a0 Z = true) (i : Nat) {d : Jvm.Cond} (h : tables_1[i]? = some d) : d.before a0 Z = true := hw _ (List.mem_of_getElem? h)
theorem own_EW {Z : State} {a0 : Array Value} (hw : ∀ d ∈ tables_1, d.before a0 Z = true) : EW Z a0 consts_1 := (EW.cons (hw _ (List.mem_of_getElem? (i := 59) rfl)) (by decide) (EW.cons (hw _ (List.mem_of_getElem? (i := 8) rfl)) (by decide) (EW.cons (hw _ (List.mem_of_getElem? (i := 132) rfl)) (by decide) EW.nil)))
theorem own_chv {Z s : State} {a0 : Array Value} {EL : List (String × Nat)} {vm0 vm : Vm} {h : Heap} (hZ : Z.Warmed39 vm0) (hEL : EW Z a0 EL) (hW : (s.setVm vm0).WarmedH vm) (H : CHv Z EL vm0 h) : CHv Z EL vm h :=
  (CHv.later (h' := h) hZ (show (Wst Z vm0 h).Warmed39 vm from hW.wide) hEL ⟨Nat.le_refl _, fun _ _ q => q⟩ (Or.inl hW.interned_eq) H).1
def own_by (c : Int32) : Int32 := (c.toInt8.toInt32).toInt8.toInt32
def own_min32 (x y : Int32) : Int32 := if y < x then y else x
/-- the first n values of an array's list -/
def own_take (vs : List Value) (d : Value) (n : Nat) : List Value := (List.range n).map fun i => vs.getD i d
theorem own_take_all (vs : List Value) (d : Value) : own_take vs d vs.length = vs := by
  unfold own_take
  apply List.ext_getElem
  · simp
  · intro i h1 h2
    simp [List.getD, List.getElem?_eq_getElem h2]
theorem own_z0 : (0 : Int32).toNatClampNeg = 0 := by decide
theorem own_take_hus (vs : List Value) (d : Value) (n : Nat) : own_take vs d n = (List.range n).map fun i => vs.getD ((0 : Int32).toNatClampNeg + i) d := by
  rw [own_z0]; simp [own_take]
theorem own_take_len (vs : List Value) (d : Value) (n : Nat) : (own_take vs d n).length = n := by simp [own_take]
theorem own_sh0 (x : Int32) : x >>> ((0 : Int32) &&& 31) = x := by
  apply Int32.toInt_inj.mp
  rw [c_ishr x 0 0 (by decide)]; simp
theorem own_sl0 (x : Int32) : x <<< ((0 : Int32) &&& 31) = x := by
  have h := c_ishl x 0 0 (by decide)
  have r := rng32 x
  have r2 := rng32 (x <<< ((0 : Int32) &&& 31))
  generalize x <<< ((0 : Int32) &&& 31) = y at h r2 ⊢
  apply Int32.toInt_inj.mp
  simp only [show ((2 ^ 0 : Nat) : Int) = 1 from rfl] at h
  omega
theorem own_16 : (16 : Int32).toNatClampNeg = 16 := by decide
/-- a char of one byte -/
def Ch8 (c : Int32) : Prop := (¬ (255 : Int32) < c) ∧ nar .char c = c ∧ nar .char (own_by c &&& (255 : Int32)) = c
theorem Ch8.le {c : Int32} (h : Ch8 c) : ¬ (255 : Int32) < c := h.1
theorem Ch8.nr {c : Int32} (h : Ch8 c) : nar .char c = c := h.2.1
theorem Ch8.by8 {c : Int32} (h : Ch8 c) : nar .char (own_by c &&& (255 : Int32)) = c := h.2.2
theorem own_ch8 (x : Int32) : Ch8 (nar .char (x &&& 255)) := by
  have h1 := c_and x 255 (by decide)
  generalize x &&& 255 = r at h1 ⊢
  have z255 : (255 : Int32).toInt = 255 := by decide
  rw [z255] at h1
  obtain ⟨n, hn⟩ : ∃ n : Nat, r.toInt = n := ⟨r.toInt.toNat, by omega⟩
  have hlt : n < 256 := by omega
  have hi : ∀ i : Fin 256, (Int32.ofNat i.1).toInt = i.1 := by decide +kernel
  have hr : r = Int32.ofNat n := Int32.toInt_inj.mp (hn.trans (hi ⟨n, hlt⟩).symm)
  have key : ∀ i : Fin 256, (¬ (255 : Int32) < nar .char (Int32.ofNat i.1)) ∧ nar .char (nar .char (Int32.ofNat i.1)) = nar .char (Int32.ofNat i.1) ∧ nar .char (own_by (nar .char (Int32.ofNat i.1)) &&& (255 : Int32)) = nar .char (Int32.ofNat i.1) := by decide +kernel
  rw [hr]; exact key ⟨n, hlt⟩
theorem own_by47 {c : Int32} (h : Ch8 c) : own_by c = 47 ↔ c = 47 := by
  refine ⟨fun q => ?_, fun q => by rw [q]; decide⟩
  have b := h.by8
  rw [q] at b
  exact b.symm.trans (by decide)
def own_ch (x : Int32) : Int32 := if x &&& 256 = 0 then nar .char (x &&& 255) else 47
theorem own_ch_ok (x : Int32) : Ch8 (own_ch x) := by
  unfold own_ch; split
  · exact own_ch8 x
  · refine ⟨by decide, by decide, by decide⟩
theorem own_rem6 (x : Int32) : (x &&& 2147483647) % 6 = 0 ∨ (x &&& 2147483647) % 6 = 1 ∨ (x &&& 2147483647) % 6 = 2 ∨ (x &&& 2147483647) % 6 = 3 ∨ (x &&& 2147483647) % 6 = 4 ∨ (x &&& 2147483647) % 6 = 5 := by
  have h1 := c_and x 2147483647 (by decide)
  have h2 := (c_irem (x &&& 2147483647) 6 6 rfl).1 h1.1
  have h3 : 0 ≤ ((x &&& 2147483647) % 6).toInt ∧ ((x &&& 2147483647) % 6).toInt < 6 := by rw [h2]; omega
  generalize (x &&& 2147483647) % 6 = r at h3
  have h4 : r.toInt = 0 ∨ r.toInt = 1 ∨ r.toInt = 2 ∨ r.toInt = 3 ∨ r.toInt = 4 ∨ r.toInt = 5 := by omega
  rcases h4 with h | h | h | h | h | h
  · exact Or.inl (Int32.toInt_inj.mp h)
  · exact Or.inr (Or.inl (Int32.toInt_inj.mp h))
  · exact Or.inr (Or.inr (Or.inl (Int32.toInt_inj.mp h)))
  · exact Or.inr (Or.inr (Or.inr (Or.inl (Int32.toInt_inj.mp h))))
  · exact Or.inr (Or.inr (Or.inr (Or.inr (Or.inl (Int32.toInt_inj.mp h)))))
  · exact Or.inr (Or.inr (Or.inr (Or.inr (Or.inr (Int32.toInt_inj.mp h)))))
/-- the last place below q at which the bytes hold 47, or -1 -/
def own_lst (bs : List Int32) : Nat → Int32
  | 0 => -1
  | q + 1 => if bs.getD q 0 = 47 then Int32.ofNat q else own_lst bs q
theorem own_mapD (bs : List Int32) (q : Nat) : (bs.map Value.int).getD q (.int (0 : Int32)) = .int (bs.getD q 0) := by
  simp only [List.getD, List.getElem?_map]
  cases bs[q]? <;> rfl
theorem own_dec {x : Int32} {q : Nat} (h : x.toInt = q) : (x + (-1 : Int32)).toInt = (q : Int) - 1 := by
  have r := rng32 x
  rw [Int32.toInt_add, h, show (-1 : Int32).toInt = -1 from by decide, Int.bmod_eq_of_le] <;> omega
theorem own_nat {x : Int32} {q : Nat} (h : x.toInt = q) : x.toNatClampNeg = q := by simp only [Int32.toNatClampNeg, h]; rfl
theorem own_ofNat {x : Int32} {q : Nat} (h : x.toInt = q) : Int32.ofNat q = x := by
  apply Int32.toInt_inj.mp
  have r := rng32 x
  rw [h, Int32.toInt_ofNat_small (by omega)]
theorem own_nn {x : Int32} (h : ¬ x < 0) : x.toInt = x.toNatClampNeg := by
  rw [Int32.lt_iff_toInt_lt] at h
  simp only [Int32.toNatClampNeg, show (0 : Int32).toInt = 0 from by decide] at h ⊢
  omega
theorem own_m1 {x : Int32} (h : ¬ x < 0) : (x - (1 : Int32)).toInt = (x.toNatClampNeg : Int) - 1 := by
  have h1 := own_nn h
  have r := rng32 x
  rw [Int32.toInt_sub, h1, show (1 : Int32).toInt = 1 from by decide, Int.bmod_eq_of_le] <;> omega
theorem own_minself (x : Int32) : own_min32 x x = x := by unfold own_min32; split <;> rfl
theorem djdk42m152_0 : decode jdk_42_method_152_code 0 = .ok (.getstatic 38, 3) := by decide +kernel
theorem djdk42m152_3 : decode jdk_42_method_152_code 3 = .ok (.ifCond .eq 10, 3) := by decide +kernel
theorem djdk42m152_6 : decode jdk_42_method_152_code 6 = .ok (.aload_n 0, 1) := by decide +kernel
theorem djdk42m152_7 : decode jdk_42_method_152_code 7 = .ok (.getfield 15, 3) := by decide +kernel
theorem djdk42m152_10 : decode jdk_42_method_152_code 10 = .ok (.goto 4, 3) := by decide +kernel
theorem djdk42m152_14 : decode jdk_42_method_152_code 14 = .ok (.ireturn, 1) := by decide +kernel
theorem pn_java_lang_String : plainName "java/lang/String" = true := by first | (simp [plainName, overriddenIn]; done) | decide +kernel
theorem ef_rm_coder (m : MethodId) (G1 : Int32) (aa : Addr) (cd : Int32)  : entryFrame m #[(.ref aa)] 1 = mkF m 0 #[.val (.ref aa)] [] := by  first | (simp [entryFrame, mkF, argsToLocals, Value.category, maxLocals]; done) | rfl
def Q_rm_coder (Z : State) (G1 : Int32) (aa : Addr) (cd : Int32) (h0 : Heap) (n0 : Nat) (v : Option Value) (h : Heap) (L : List Loc) : Prop := (v = some (.int cd)) ∧ (Fr n0 L) ∧ (h = h0)
set_option maxRecDepth 65536 in
set_option maxHeartbeats 40000000 in
theorem rm_coder (l : Launch) (Z : State) (a0 : Array Value) (hw : ∀ d ∈ tables_1, d.before a0 Z = true) (ws : List Jvm.Cond) (G1 : Int32) (aa : Addr) (cd : Int32) (h0 : Heap) (n0 : Nat) (Z0 : n0 ≤ h0.size) (O2 : Sta Z Z.heap "java/lang/String" "COMPACT_STRINGS" "Z" (.int G1)) (P5 : ¬ G1 = 0) (f2 : Fld Z h0 aa "java/lang/String" "coder" "B" (.int cd)) (hcd : cd = 0 ∨ cd = 1) (Old0 : OldL Z n0 h0) :
    MetFree l (⟨"java/lang/String", "coder", "()B"⟩ : MethodName) (head1 (Jvm.Cond.code (⟨"java/lang/String", "coder", "()B"⟩ : MethodName) jdk_42_method_152_code 1 (some .byte) :: ws) ({ frames := 0, cells := 0, slots := 0, locals := 0 } : Room)) (fun a U => a = #[(.ref aa)] ∧ Z.Warmed39 U.vm ∧ U.heap = h0) (fun _ _ _ _ _ => True) (fun _ U o U' => ∃ v L, o = .returned v ∧ Q_rm_coder Z G1 aa cd h0 n0 v U'.heap L ∧ FrameEnd U o U' L ({ frames := 0, cells := 0, slots := 0, locals := 0 } : Room).cells ({ frames := 0, cells := 0, slots := 0, locals := 0 } : Room).slots) := by
 refine MetFree.of_bodySF (plainFor_of_name pn_java_lang_String) hisR ?_
 intro p e s m args below meth c s₁ Bd hml0 hP hK
 obtain ⟨rfl, hZ, hh⟩ := hP
 have hx := Bd.exec
 have hby := Bd.bytes
 have hml : c.maxLocals = 1 := hml0
 have hown : s.vm.findClass "java/lang/String" = some m.cls := findClass_of_methodNamed Bd.named
 have hnm := (name_of_methodNamed Bd.named Bd.method).1
 have X0 : Stand p l e ({ frames := 0, cells := 0, slots := 0, locals := 0 } : Room) s m #[(.ref aa)] below meth c s₁ [] 0 0 := Stand.of_body Bd
 have e0 : s₁.heap = h0 := by rw [← hh, Bd.state]; rfl
 have N0 := Fr.nil n0
 have K00 : Keep h0 h0 [] := Keep.refl _ _
 show Rch p e below s₁ (entryFrame m #[(.ref aa)] 1) (FinP s (Q_rm_coder Z G1 aa cd h0 n0) 0 0)
 refine Rch.cast (ef_rm_coder m G1 aa cd) ?_
 show Rch p e below s₁ (mkF m 0 #[.val (.ref aa)] []) _
 obtain ⟨T1, X1, e1, st1⟩ := getS X0 hx hZ hown (host := "") (wi hw 36 rfl) Via.refl e0 (O2.ext Old0.2) (g := (mkF m 0 #[.val (.ref aa)] [])) rfl (hb hby djdk42m152_0)
 refine Rch.st (fun _ k => st1 _ k) ?_
 show Rch p e below T1 (mkF m 3 #[.val (.ref aa)] [(.int G1)]) _
 refine w_ifNo (pc' := 6) X1 hx hby djdk42m152_3 (XT.i0_eq_f (P5)) rfl ?_
 refine w_aloadN (pc' := 7) X1 hx hby djdk42m152_6 rfl rfl rfl ?_
 obtain ⟨T2, X2, e2, st2⟩ := getF X1 hx hZ hown (host := "") (Or.inl (wi hw 37 rfl)) Via.refl e1 f2 (g := (mkF m 7 #[.val (.ref aa)] [(.ref aa)])) rfl rfl (hb hby djdk42m152_7)
 refine Rch.st (fun _ k => st2 _ k) ?_
 show Rch p e below T2 (mkF m 10 #[.val (.ref aa)] [(.int cd)]) _
 refine w_goto (pc' := 14) X2 hx hby djdk42m152_10 (by decide) ?_
 exact Rch.retV X2 hx Bd.returns (by rcases hcd with rfl | rfl <;> rfl) (Or.inl ⟨rfl, by simp, _, rfl⟩) (hb hby djdk42m152_14) (by rw [e2]; exact ⟨rfl, N0, rfl⟩) (by decide) (by decide)

theorem djdk42m54_0 : decode jdk_42_method_54_code 0 = .ok (.aload_n 0, 1) := by decide +kernel
theorem djdk42m54_1 : decode jdk_42_method_54_code 1 = .ok (.getfield 9, 3) := by decide +kernel
theorem djdk42m54_4 : decode jdk_42_method_54_code 4 = .ok (.arraylength, 1) := by decide +kernel
theorem djdk42m54_5 : decode jdk_42_method_54_code 5 = .ok (.aload_n 0, 1) := by decide +kernel
theorem djdk42m54_6 : decode jdk_42_method_54_code 6 = .ok (.invokevirtual 335, 3) := by decide +kernel
theorem djdk42m54_9 : decode jdk_42_method_54_code 9 = .ok (.ishr, 1) := by decide +kernel
theorem djdk42m54_10 : decode jdk_42_method_54_code 10 = .ok (.ireturn, 1) := by decide +kernel
theorem ef_rm_length (m : MethodId) (G1 : Int32) (aa : Addr) (cd : Int32) (bb : Addr) (kb : ClassId) (nn : Int32) (vs : List Value) (dd : Value)  : entryFrame m #[(.ref aa)] 1 = mkF m 0 #[.val (.ref aa)] [] := by  first | (simp [entryFrame, mkF, argsToLocals, Value.category, maxLocals]; done) | rfl
def Q_rm_length (Z : State) (G1 : Int32) (aa : Addr) (cd : Int32) (bb : Addr) (kb : ClassId) (nn : Int32) (vs : List Value) (dd : Value) (h0 : Heap) (n0 : Nat) (v : Option Value) (h : Heap) (L : List Loc) : Prop := (v = some (.int (nn >>> (cd &&& 31)))) ∧ (Fr n0 L) ∧ (h = h0)
theorem pd___B : parseMethodDescriptor "()B" = some ⟨[], (some .byte)⟩ := by decide +kernel
set_option maxRecDepth 65536 in
set_option maxHeartbeats 40000000 in
theorem rm_length (l : Launch) (Z : State) (a0 : Array Value) (hw : ∀ d ∈ tables_1, d.before a0 Z = true) (ws : List Jvm.Cond) (G1 : Int32) (aa : Addr) (cd : Int32) (bb : Addr) (kb : ClassId) (nn : Int32) (vs : List Value) (dd : Value) (h0 : Heap) (n0 : Nat) (Z0 : n0 ≤ h0.size) (O2 : Sta Z Z.heap "java/lang/String" "COMPACT_STRINGS" "Z" (.int G1)) (P5 : ¬ G1 = 0) (f2 : Fld Z h0 aa "java/lang/String" "coder" "B" (.int cd)) (hcd : cd = 0 ∨ cd = 1) (f4 : Fld Z h0 aa "java/lang/String" "value" "[B" (.ref bb)) (f5 : Arv Z h0 bb kb .byte nn vs dd) (f6 : Exa Z h0 aa "java/lang/String") (Old0 : OldL Z n0 h0) :
    MetFree l (⟨"java/lang/String", "length", "()I"⟩ : MethodName) (head1 (Jvm.Cond.code (⟨"java/lang/String", "length", "()I"⟩ : MethodName) jdk_42_method_54_code 1 (some .int) :: ws) ({ frames := 1, cells := 0, slots := 0, locals := 13 } : Room)) (fun a U => a = #[(.ref aa)] ∧ Z.Warmed39 U.vm ∧ U.heap = h0) (fun _ _ _ _ _ => True) (fun _ U o U' => ∃ v L, o = .returned v ∧ Q_rm_length Z G1 aa cd bb kb nn vs dd h0 n0 v U'.heap L ∧ FrameEnd U o U' L ({ frames := 1, cells := 0, slots := 0, locals := 13 } : Room).cells ({ frames := 1, cells := 0, slots := 0, locals := 13 } : Room).slots) := by
 refine MetFree.of_bodySF (plainFor_of_name pn_java_lang_String) hisR ?_
 intro p e s m args below meth c s₁ Bd hml0 hP hK
 obtain ⟨rfl, hZ, hh⟩ := hP
 have hx := Bd.exec
 have hby := Bd.bytes
 have hml : c.maxLocals = 1 := hml0
 have hown : s.vm.findClass "java/lang/String" = some m.cls := findClass_of_methodNamed Bd.named
 have hnm := (name_of_methodNamed Bd.named Bd.method).1
 have X0 : Stand p l e ({ frames := 1, cells := 0, slots := 0, locals := 13 } : Room) s m #[(.ref aa)] below meth c s₁ [] 0 0 := Stand.of_body Bd
 have e0 : s₁.heap = h0 := by rw [← hh, Bd.state]; rfl
 have N0 := Fr.nil n0
 have K00 : Keep h0 h0 [] := Keep.refl _ _
 show Rch p e below s₁ (entryFrame m #[(.ref aa)] 1) (FinP s (Q_rm_length Z G1 aa cd bb kb nn vs dd h0 n0) 0 0)
 refine Rch.cast (ef_rm_length m G1 aa cd bb kb nn vs dd) ?_
 show Rch p e below s₁ (mkF m 0 #[.val (.ref aa)] []) _
 refine w_aloadN (pc' := 1) X0 hx hby djdk42m54_0 rfl rfl rfl ?_
 obtain ⟨T3, X3, e3, st3⟩ := getF X0 hx hZ hown (host := "") (Or.inl (wi hw 30 rfl)) Via.refl e0 f4 (g := (mkF m 1 #[.val (.ref aa)] [(.ref aa)])) rfl rfl (hb hby djdk42m54_1)
 refine Rch.st (fun _ k => st3 _ k) ?_
 show Rch p e below T3 (mkF m 4 #[.val (.ref aa)] [(.ref bb)]) _
 refine Rch.st (fun _ k => own_alen X3 hx hZ e3 f5 rfl rfl (hb hby djdk42m54_4) k) ?_
 show Rch p e below T3 (mkF m 5 #[.val (.ref aa)] [(.int nn)]) _
 refine w_aloadN (pc' := 6) X3 hx hby djdk42m54_5 rfl rfl rfl ?_
 obtain ⟨cq4, kq4, q4a, q4b, q4c⟩ := isOf hZ e3 f6
 obtain ⟨_, _, ⟨T4, L4, k4, n4⟩, -, X4, ⟨Lc4, hQ4, l4, y4, z4⟩, st4⟩ := X3.virtualBack hx (y := (⟨"java/lang/String", "coder", "()B"⟩ : MethodName)) (z := (⟨"java/lang/String", "coder", "()B"⟩ : MethodName)) hown (mvT hZ (wi hw 31 rfl)) (mvT hZ (wi hw 32 rfl)) (notFace_of_selects (args := #[]) (mvT hZ (wi hw 34 rfl))) (mvT hZ (wi hw 34 rfl)) (mvT hZ (wi hw 33 rfl)) (by decide) (backOf (W := 1) (rm_coder l Z a0 hw [] G1 aa cd h0 n0 Z0 (O2) (P5) f2 (hcd) Old0) hZ (wi hw 35 rfl) (wi hw 9 rfl) (by decide) (by decide)) q4a q4c (g := (mkF m 6 #[.val (.ref aa)] [(.ref aa), (.int nn)])) rfl (by rw [hml]; rfl) (Steps.refl _) (argsL := []) (rest := [(.int nn)]) (lenOf pd___B rfl) rfl (by show 2 * 0 + _ ≤ _; exact Nat.le_of_eq rfl) (hb hby djdk42m54_6) (fun _ _ => ⟨rfl, e3, (by decide : 0 + 0 ≤ _), (by decide : 0 + 0 ≤ _)⟩)
 dsimp only [Pt.U, Pt.locs, Pt.cells, Pt.slots] at X4 l4 y4 z4 st4 hQ4
 subst l4 y4 z4
 obtain ⟨rfl, NQ4, K4⟩ := hQ4
 have N5 := Fr.app N0 NQ4
 refine Rch.st (fun _ k => st4.trans k) ?_
 show Rch p e below T4 (mkF m 9 #[.val (.ref aa)] [(.int cd), (.int nn)]) _
 refine w_ishr (pc' := 10) X4 hx hby djdk42m54_9 rfl ?_
 exact Rch.retV X4 hx Bd.returns rfl (Or.inl ⟨rfl, by simp, _, rfl⟩) (hb hby djdk42m54_10) (by rw [K4]; exact ⟨rfl, N5, rfl⟩) (by decide) (by decide)

theorem djdk52m15_0 : decode jdk_52_method_15_code 0 = .ok (.iload_n 1, 1) := by decide +kernel
theorem djdk52m15_1 : decode jdk_52_method_15_code 1 = .ok (.aload_n 0, 1) := by decide +kernel
theorem djdk52m15_2 : decode jdk_52_method_15_code 2 = .ok (.arraylength, 1) := by decide +kernel
theorem djdk52m15_3 : decode jdk_52_method_15_code 3 = .ok (.isub, 1) := by decide +kernel
theorem djdk52m15_4 : decode jdk_52_method_15_code 4 = .ok (.bipush 31, 2) := by decide +kernel
theorem djdk52m15_6 : decode jdk_52_method_15_code 6 = .ok (.iushr, 1) := by decide +kernel
theorem djdk52m15_7 : decode jdk_52_method_15_code 7 = .ok (.i2b, 1) := by decide +kernel
theorem djdk52m15_8 : decode jdk_52_method_15_code 8 = .ok (.ireturn, 1) := by decide +kernel
theorem pn_java_lang_StringUTF16 : plainName "java/lang/StringUTF16" = true := by first | (simp [plainName, overriddenIn]; done) | decide +kernel
theorem ef_rm_cfl (m : MethodId) (bd : Addr) (kd : ClassId) (nn : Int32) (mm : Int32) (vs : List Value) (dd : Value)  : entryFrame m #[(.ref bd), (.int nn)] 2 = mkF m 0 #[.val (.ref bd), .val (.int nn)] [] := by  first | (simp [entryFrame, mkF, argsToLocals, Value.category, maxLocals]; done) | rfl
def Q_rm_cfl (Z : State) (bd : Addr) (kd : ClassId) (nn : Int32) (mm : Int32) (vs : List Value) (dd : Value) (h0 : Heap) (n0 : Nat) (v : Option Value) (h : Heap) (L : List Loc) : Prop := (v = some (.int ((XT.ushr (nn - mm) (31 : Int32))).toInt8.toInt32)) ∧ (Fr n0 L) ∧ (h = h0)
set_option maxRecDepth 65536 in
set_option maxHeartbeats 40000000 in
theorem rm_cfl (l : Launch) (Z : State) (a0 : Array Value) (hw : ∀ d ∈ tables_1, d.before a0 Z = true) (ws : List Jvm.Cond) (bd : Addr) (kd : ClassId) (nn : Int32) (mm : Int32) (vs : List Value) (dd : Value) (h0 : Heap) (n0 : Nat) (Z0 : n0 ≤ h0.size) (f0 : Arv Z h0 bd kd .byte mm vs dd) :
    MetFree l (⟨"java/lang/StringUTF16", "coderFromArrayLen", "([BI)B"⟩ : MethodName) (head1 (Jvm.Cond.code (⟨"java/lang/StringUTF16", "coderFromArrayLen", "([BI)B"⟩ : MethodName) jdk_52_method_15_code 2 (some .byte) :: ws) ({ frames := 0, cells := 0, slots := 0, locals := 0 } : Room)) (fun a U => a = #[(.ref bd), (.int nn)] ∧ Z.Warmed39 U.vm ∧ U.heap = h0) (fun _ _ _ _ _ => True) (fun _ U o U' => ∃ v L, o = .returned v ∧ Q_rm_cfl Z bd kd nn mm vs dd h0 n0 v U'.heap L ∧ FrameEnd U o U' L ({ frames := 0, cells := 0, slots := 0, locals := 0 } : Room).cells ({ frames := 0, cells := 0, slots := 0, locals := 0 } : Room).slots) := by
 refine MetFree.of_bodySF (plainFor_of_name pn_java_lang_StringUTF16) hisR ?_
 intro p e s m args below meth c s₁ Bd hml0 hP hK
 obtain ⟨rfl, hZ, hh⟩ := hP
 have hx := Bd.exec
 have hby := Bd.bytes
 have hml : c.maxLocals = 2 := hml0
 have hown : s.vm.findClass "java/lang/StringUTF16" = some m.cls := findClass_of_methodNamed Bd.named
 have hnm := (name_of_methodNamed Bd.named Bd.method).1
 have X0 : Stand p l e ({ frames := 0, cells := 0, slots := 0, locals := 0 } : Room) s m #[(.ref bd), (.int nn)] below meth c s₁ [] 0 0 := Stand.of_body Bd
 have e0 : s₁.heap = h0 := by rw [← hh, Bd.state]; rfl
 have N0 := Fr.nil n0
 have K00 : Keep h0 h0 [] := Keep.refl _ _
 show Rch p e below s₁ (entryFrame m #[(.ref bd), (.int nn)] 2) (FinP s (Q_rm_cfl Z bd kd nn mm vs dd h0 n0) 0 0)
 refine Rch.cast (ef_rm_cfl m bd kd nn mm vs dd) ?_
 show Rch p e below s₁ (mkF m 0 #[.val (.ref bd), .val (.int nn)] []) _
 refine w_iloadN (pc' := 1) X0 hx hby djdk52m15_0 rfl rfl ?_
 refine w_aloadN (pc' := 2) X0 hx hby djdk52m15_1 rfl rfl rfl ?_
 refine Rch.st (fun _ k => own_alen X0 hx hZ e0 f0 rfl rfl (hb hby djdk52m15_2) k) ?_
 show Rch p e below s₁ (mkF m 3 #[.val (.ref bd), .val (.int nn)] [(.int mm), (.int nn)]) _
 refine w_isub (pc' := 4) X0 hx hby djdk52m15_3 rfl ?_
 refine w_bipush (pc' := 6) (v := 31) X0 hx hby djdk52m15_4 rfl rfl ?_
 refine w_iushr (pc' := 7) X0 hx hby djdk52m15_6 rfl ?_
 refine w_i2b (pc' := 8) X0 hx hby djdk52m15_7 rfl ?_
 exact Rch.retV X0 hx Bd.returns (XT.narrow_b _) (Or.inl ⟨rfl, by simp, _, rfl⟩) (hb hby djdk52m15_8) (by rw [e0]; exact ⟨rfl, N0, rfl⟩) (by decide) (by decide)

theorem djdk42m154_0 : decode jdk_42_method_154_code 0 = .ok (.getstatic 38, 3) := by decide +kernel
theorem djdk42m154_3 : decode jdk_42_method_154_code 3 = .ok (.ifCond .eq 14, 3) := by decide +kernel
theorem djdk42m154_6 : decode jdk_42_method_154_code 6 = .ok (.aload_n 0, 1) := by decide +kernel
theorem djdk42m154_7 : decode jdk_42_method_154_code 7 = .ok (.getfield 15, 3) := by decide +kernel
theorem djdk42m154_10 : decode jdk_42_method_154_code 10 = .ok (.ifCond .ne 7, 3) := by decide +kernel
theorem djdk42m154_13 : decode jdk_42_method_154_code 13 = .ok (.iconst 1, 1) := by decide +kernel
theorem djdk42m154_14 : decode jdk_42_method_154_code 14 = .ok (.goto 4, 3) := by decide +kernel
theorem djdk42m154_18 : decode jdk_42_method_154_code 18 = .ok (.ireturn, 1) := by decide +kernel
theorem ef_rm_isl (m : MethodId) (G1 : Int32) (aa : Addr)  : entryFrame m #[(.ref aa)] 1 = mkF m 0 #[.val (.ref aa)] [] := by  first | (simp [entryFrame, mkF, argsToLocals, Value.category, maxLocals]; done) | rfl
def Q_rm_isl (Z : State) (G1 : Int32) (aa : Addr) (h0 : Heap) (n0 : Nat) (v : Option Value) (h : Heap) (L : List Loc) : Prop := (v = some (.int (1 : Int32))) ∧ (Fr n0 L) ∧ (h = h0)
set_option maxRecDepth 65536 in
set_option maxHeartbeats 40000000 in
theorem rm_isl (l : Launch) (Z : State) (a0 : Array Value) (hw : ∀ d ∈ tables_1, d.before a0 Z = true) (ws : List Jvm.Cond) (G1 : Int32) (aa : Addr) (h0 : Heap) (n0 : Nat) (Z0 : n0 ≤ h0.size) (O2 : Sta Z Z.heap "java/lang/String" "COMPACT_STRINGS" "Z" (.int G1)) (P5 : ¬ G1 = 0) (f2 : Fld Z h0 aa "java/lang/String" "coder" "B" (.int (0 : Int32))) (Old0 : OldL Z n0 h0) :
    MetFree l (⟨"java/lang/String", "isLatin1", "()Z"⟩ : MethodName) (head1 (Jvm.Cond.code (⟨"java/lang/String", "isLatin1", "()Z"⟩ : MethodName) jdk_42_method_154_code 1 (some .boolean) :: ws) ({ frames := 0, cells := 0, slots := 0, locals := 0 } : Room)) (fun a U => a = #[(.ref aa)] ∧ Z.Warmed39 U.vm ∧ U.heap = h0) (fun _ _ _ _ _ => True) (fun _ U o U' => ∃ v L, o = .returned v ∧ Q_rm_isl Z G1 aa h0 n0 v U'.heap L ∧ FrameEnd U o U' L ({ frames := 0, cells := 0, slots := 0, locals := 0 } : Room).cells ({ frames := 0, cells := 0, slots := 0, locals := 0 } : Room).slots) := by
 refine MetFree.of_bodySF (plainFor_of_name pn_java_lang_String) hisR ?_
 intro p e s m args below meth c s₁ Bd hml0 hP hK
 obtain ⟨rfl, hZ, hh⟩ := hP
 have hx := Bd.exec
 have hby := Bd.bytes
 have hml : c.maxLocals = 1 := hml0
 have hown : s.vm.findClass "java/lang/String" = some m.cls := findClass_of_methodNamed Bd.named
 have hnm := (name_of_methodNamed Bd.named Bd.method).1
 have X0 : Stand p l e ({ frames := 0, cells := 0, slots := 0, locals := 0 } : Room) s m #[(.ref aa)] below meth c s₁ [] 0 0 := Stand.of_body Bd
 have e0 : s₁.heap = h0 := by rw [← hh, Bd.state]; rfl
 have N0 := Fr.nil n0
 have K00 : Keep h0 h0 [] := Keep.refl _ _
 show Rch p e below s₁ (entryFrame m #[(.ref aa)] 1) (FinP s (Q_rm_isl Z G1 aa h0 n0) 0 0)
 refine Rch.cast (ef_rm_isl m G1 aa) ?_
 show Rch p e below s₁ (mkF m 0 #[.val (.ref aa)] []) _
 obtain ⟨T6, X6, e6, st6⟩ := getS X0 hx hZ hown (host := "") (wi hw 36 rfl) Via.refl e0 (O2.ext Old0.2) (g := (mkF m 0 #[.val (.ref aa)] [])) rfl (hb hby djdk42m154_0)
 refine Rch.st (fun _ k => st6 _ k) ?_
 show Rch p e below T6 (mkF m 3 #[.val (.ref aa)] [(.int G1)]) _
 refine w_ifNo (pc' := 6) X6 hx hby djdk42m154_3 (XT.i0_eq_f (P5)) rfl ?_
 refine w_aloadN (pc' := 7) X6 hx hby djdk42m154_6 rfl rfl rfl ?_
 obtain ⟨T7, X7, e7, st7⟩ := getF X6 hx hZ hown (host := "") (Or.inl (wi hw 37 rfl)) Via.refl e6 f2 (g := (mkF m 7 #[.val (.ref aa)] [(.ref aa)])) rfl rfl (hb hby djdk42m154_7)
 refine Rch.st (fun _ k => st7 _ k) ?_
 show Rch p e below T7 (mkF m 10 #[.val (.ref aa)] [(.int 0)]) _
 refine w_ifNo (pc' := 13) X7 hx hby djdk42m154_10 (XT.i0_ne_f (by decide)) rfl ?_
 refine w_iconst (pc' := 14) (v := 1) X7 hx hby djdk42m154_13 rfl rfl ?_
 refine w_goto (pc' := 18) X7 hx hby djdk42m154_14 (by decide) ?_
 exact Rch.retV X7 hx Bd.returns rfl (Or.inl ⟨rfl, by simp, _, rfl⟩) (hb hby djdk42m154_18) (by rw [e7]; exact ⟨rfl, N0, rfl⟩) (by decide) (by decide)

theorem djdk41m11_0 : decode jdk_41_method_11_code 0 = .ok (.iload_n 0, 1) := by decide +kernel
theorem djdk41m11_1 : decode jdk_41_method_11_code 1 = .ok (.ifCond .lt 8, 3) := by decide +kernel
theorem djdk41m11_4 : decode jdk_41_method_11_code 4 = .ok (.iload_n 0, 1) := by decide +kernel
theorem djdk41m11_5 : decode jdk_41_method_11_code 5 = .ok (.iload_n 1, 1) := by decide +kernel
theorem djdk41m11_6 : decode jdk_41_method_11_code 6 = .ok (.if_icmp .lt 10, 3) := by decide +kernel
theorem djdk41m11_16 : decode jdk_41_method_11_code 16 = .ok (.iload_n 0, 1) := by decide +kernel
theorem djdk41m11_17 : decode jdk_41_method_11_code 17 = .ok (.ireturn, 1) := by decide +kernel
theorem pn_jdk_internal_util_Preconditions : plainName "jdk/internal/util/Preconditions" = true := by first | (simp [plainName, overriddenIn]; done) | decide +kernel
theorem ef_rm_ci3 (m : MethodId) (ii : Int32) (nn : Int32) (G3 : Value) (rG3 : G3.isRef = true) : entryFrame m #[(.int ii), (.int nn), G3] 3 = mkF m 0 #[.val (.int ii), .val (.int nn), .val G3] [] := by rcases ref_cases rG3 with rfl | ⟨_, rfl⟩ <;> first | (simp [entryFrame, mkF, argsToLocals, Value.category, maxLocals]; done) | rfl
def Q_rm_ci3 (Z : State) (ii : Int32) (nn : Int32) (G3 : Value) (h0 : Heap) (n0 : Nat) (v : Option Value) (h : Heap) (L : List Loc) : Prop := (v = some (.int ii)) ∧ (Fr n0 L) ∧ (h = h0)
set_option maxRecDepth 65536 in
set_option maxHeartbeats 40000000 in
theorem rm_ci3 (l : Launch) (Z : State) (a0 : Array Value) (hw : ∀ d ∈ tables_1, d.before a0 Z = true) (ws : List Jvm.Cond) (ii : Int32) (nn : Int32) (G3 : Value) (h0 : Heap) (n0 : Nat) (Z0 : n0 ≤ h0.size) (rG3 : G3.isRef = true) (hz0 : ¬ ii < 0) (hz1 : ii < nn) :
    MetFree l (⟨"jdk/internal/util/Preconditions", "checkIndex", "(IILjava/util/function/BiFunction;)I"⟩ : MethodName) (head1 (Jvm.Cond.code (⟨"jdk/internal/util/Preconditions", "checkIndex", "(IILjava/util/function/BiFunction;)I"⟩ : MethodName) jdk_41_method_11_code 3 (some .int) :: ws) ({ frames := 0, cells := 0, slots := 0, locals := 0 } : Room)) (fun a U => a = #[(.int ii), (.int nn), G3] ∧ Z.Warmed39 U.vm ∧ U.heap = h0) (fun _ _ _ _ _ => True) (fun _ U o U' => ∃ v L, o = .returned v ∧ Q_rm_ci3 Z ii nn G3 h0 n0 v U'.heap L ∧ FrameEnd U o U' L ({ frames := 0, cells := 0, slots := 0, locals := 0 } : Room).cells ({ frames := 0, cells := 0, slots := 0, locals := 0 } : Room).slots) := by
 refine MetFree.of_bodySF (plainFor_of_name pn_jdk_internal_util_Preconditions) hisR ?_
 intro p e s m args below meth c s₁ Bd hml0 hP hK
 obtain ⟨rfl, hZ, hh⟩ := hP
 have hx := Bd.exec
 have hby := Bd.bytes
 have hml : c.maxLocals = 3 := hml0
 have hown : s.vm.findClass "jdk/internal/util/Preconditions" = some m.cls := findClass_of_methodNamed Bd.named
 have hnm := (name_of_methodNamed Bd.named Bd.method).1
 have X0 : Stand p l e ({ frames := 0, cells := 0, slots := 0, locals := 0 } : Room) s m #[(.int ii), (.int nn), G3] below meth c s₁ [] 0 0 := Stand.of_body Bd
 have e0 : s₁.heap = h0 := by rw [← hh, Bd.state]; rfl
 have N0 := Fr.nil n0
 have K00 : Keep h0 h0 [] := Keep.refl _ _
 show Rch p e below s₁ (entryFrame m #[(.int ii), (.int nn), G3] 3) (FinP s (Q_rm_ci3 Z ii nn G3 h0 n0) 0 0)
 refine Rch.cast (ef_rm_ci3 m ii nn G3 rG3) ?_
 show Rch p e below s₁ (mkF m 0 #[.val (.int ii), .val (.int nn), .val G3] []) _
 refine w_iloadN (pc' := 1) X0 hx hby djdk41m11_0 rfl rfl ?_
 refine w_ifNo (pc' := 4) X0 hx hby djdk41m11_1 (XT.i0_lt_f (hz0)) rfl ?_
 refine w_iloadN (pc' := 5) X0 hx hby djdk41m11_4 rfl rfl ?_
 refine w_iloadN (pc' := 6) X0 hx hby djdk41m11_5 rfl rfl ?_
 refine w_icmpYes (pc' := 16) X0 hx hby djdk41m11_6 (XT.ii_lt_t (hz1)) (by decide) ?_
 refine w_iloadN (pc' := 17) X0 hx hby djdk41m11_16 rfl rfl ?_
 exact Rch.retV X0 hx Bd.returns rfl (Or.inl ⟨rfl, by simp, _, rfl⟩) (hb hby djdk41m11_17) (by rw [e0]; exact ⟨rfl, N0, rfl⟩) (by decide) (by decide)

theorem djdk42m155_0 : decode jdk_42_method_155_code 0 = .ok (.iload_n 0, 1) := by decide +kernel
theorem djdk42m155_1 : decode jdk_42_method_155_code 1 = .ok (.iload_n 1, 1) := by decide +kernel
theorem djdk42m155_2 : decode jdk_42_method_155_code 2 = .ok (.getstatic 1053, 3) := by decide +kernel
theorem djdk42m155_5 : decode jdk_42_method_155_code 5 = .ok (.invokestatic 1059, 3) := by decide +kernel
theorem djdk42m155_8 : decode jdk_42_method_155_code 8 = .ok (.pop, 1) := by decide +kernel
theorem djdk42m155_9 : decode jdk_42_method_155_code 9 = .ok (.return_, 1) := by decide +kernel
theorem ef_rm_ci2 (m : MethodId) (ii : Int32) (nn : Int32) (G3 : Value)  : entryFrame m #[(.int ii), (.int nn)] 2 = mkF m 0 #[.val (.int ii), .val (.int nn)] [] := by  first | (simp [entryFrame, mkF, argsToLocals, Value.category, maxLocals]; done) | rfl
def Q_rm_ci2 (Z : State) (ii : Int32) (nn : Int32) (G3 : Value) (h0 : Heap) (n0 : Nat) (v : Option Value) (h : Heap) (L : List Loc) : Prop := (v = none) ∧ (Fr n0 L) ∧ (h = h0)
theorem pd__IILjava_util_function_BiFunction__I : parseMethodDescriptor "(IILjava/util/function/BiFunction;)I" = some ⟨[.int, .int, (.object "java/util/function/BiFunction")], (some .int)⟩ := by decide +kernel
set_option maxRecDepth 65536 in
set_option maxHeartbeats 40000000 in
theorem rm_ci2 (l : Launch) (Z : State) (a0 : Array Value) (hw : ∀ d ∈ tables_1, d.before a0 Z = true) (ws : List Jvm.Cond) (ii : Int32) (nn : Int32) (G3 : Value) (h0 : Heap) (n0 : Nat) (Z0 : n0 ≤ h0.size) (O4 : Sta Z Z.heap "jdk/internal/util/Preconditions" "SIOOBE_FORMATTER" "Ljava/util/function/BiFunction;" G3) (rG3 : G3.isRef = true) (hz0 : ¬ ii < 0) (hz1 : ii < nn) (Old0 : OldL Z n0 h0) :
    MetFree l (⟨"java/lang/String", "checkIndex", "(II)V"⟩ : MethodName) (head1 (Jvm.Cond.code (⟨"java/lang/String", "checkIndex", "(II)V"⟩ : MethodName) jdk_42_method_155_code 2 none :: ws) ({ frames := 1, cells := 0, slots := 0, locals := 14 } : Room)) (fun a U => a = #[(.int ii), (.int nn)] ∧ Z.Warmed39 U.vm ∧ U.heap = h0) (fun _ _ _ _ _ => True) (fun _ U o U' => ∃ v L, o = .returned v ∧ Q_rm_ci2 Z ii nn G3 h0 n0 v U'.heap L ∧ FrameEnd U o U' L ({ frames := 1, cells := 0, slots := 0, locals := 14 } : Room).cells ({ frames := 1, cells := 0, slots := 0, locals := 14 } : Room).slots) := by
 refine MetFree.of_bodySF (plainFor_of_name pn_java_lang_String) hisR ?_
 intro p e s m args below meth c s₁ Bd hml0 hP hK
 obtain ⟨rfl, hZ, hh⟩ := hP
 have hx := Bd.exec
 have hby := Bd.bytes
 have hml : c.maxLocals = 2 := hml0
 have hown : s.vm.findClass "java/lang/String" = some m.cls := findClass_of_methodNamed Bd.named
 have hnm := (name_of_methodNamed Bd.named Bd.method).1
 have X0 : Stand p l e ({ frames := 1, cells := 0, slots := 0, locals := 14 } : Room) s m #[(.int ii), (.int nn)] below meth c s₁ [] 0 0 := Stand.of_body Bd
 have e0 : s₁.heap = h0 := by rw [← hh, Bd.state]; rfl
 have N0 := Fr.nil n0
 have K00 : Keep h0 h0 [] := Keep.refl _ _
 show Rch p e below s₁ (entryFrame m #[(.int ii), (.int nn)] 2) (FinP s (Q_rm_ci2 Z ii nn G3 h0 n0) 0 0)
 refine Rch.cast (ef_rm_ci2 m ii nn G3) ?_
 show Rch p e below s₁ (mkF m 0 #[.val (.int ii), .val (.int nn)] []) _
 refine w_iloadN (pc' := 1) X0 hx hby djdk42m155_0 rfl rfl ?_
 refine w_iloadN (pc' := 2) X0 hx hby djdk42m155_1 rfl rfl ?_
 obtain ⟨T8, X8, e8, st8⟩ := getS X0 hx hZ hown (host := "") (wi hw 91 rfl) Via.refl e0 (O4.ext Old0.2) (g := (mkF m 2 #[.val (.int ii), .val (.int nn)] [(.int nn), (.int ii)])) rfl (hb hby djdk42m155_2)
 refine Rch.st (fun _ k => st8 _ k) ?_
 show Rch p e below T8 (mkF m 5 #[.val (.int ii), .val (.int nn)] [G3, (.int nn), (.int ii)]) _
 obtain ⟨_, _, ⟨T9, L9, k9, n9⟩, -, X9, ⟨Lc9, hQ9, l9, y9, z9⟩, st9⟩ := Jvm.LawKit.callS X8 hx (y := (⟨"jdk/internal/util/Preconditions", "checkIndex", "(IILjava/util/function/BiFunction;)I"⟩ : MethodName)) hown (mvT hZ (wi hw 129 rfl)) (mvT hZ (wi hw 130 rfl)) (mvT hZ (wi hw 92 rfl)) (mvT hZ (wi hw 131 rfl)) (by decide) (backOf (W := 0) (rm_ci3 l Z a0 hw [] ii nn G3 h0 n0 Z0 (rG3) (hz0) (hz1)) hZ (wi hw 131 rfl) (wi hw 92 rfl) (by decide) (by decide)) (g := (mkF m 5 #[.val (.int ii), .val (.int nn)] [G3, (.int nn), (.int ii)])) rfl (by rw [hml]; rfl) (argsL := [(.int ii), (.int nn), G3]) (rest := []) (lenOf pd__IILjava_util_function_BiFunction__I rfl) rfl (by show 2 * 0 + _ ≤ _; exact Nat.le_of_eq rfl) (hb hby djdk42m155_5) (fun _ _ => ⟨rfl, e8, (by decide : 0 + 0 ≤ _), (by decide : 0 + 0 ≤ _)⟩)
 dsimp only [Pt.U, Pt.locs, Pt.cells, Pt.slots] at X9 l9 y9 z9 st9 hQ9
 subst l9 y9 z9
 obtain ⟨rfl, NQ9, K9⟩ := hQ9
 have N10 := Fr.app N0 NQ9
 refine Rch.st (fun _ k => st9 _ k) ?_
 show Rch p e below T9 (mkF m 8 #[.val (.int ii), .val (.int nn)] [(.int ii)]) _
 refine w_pop (pc' := 9) X9 hx hby djdk42m155_8 rfl rfl ?_
 exact Rch.ret0 X9 hx Bd.returns (hb hby djdk42m155_9) (by rw [K9]; exact ⟨rfl, N10, rfl⟩) (by decide) (by decide)

theorem djdk43m2_0 : decode jdk_43_method_2_code 0 = .ok (.iload_n 1, 1) := by decide +kernel
theorem djdk43m2_1 : decode jdk_43_method_2_code 1 = .ok (.aload_n 0, 1) := by decide +kernel
theorem djdk43m2_2 : decode jdk_43_method_2_code 2 = .ok (.arraylength, 1) := by decide +kernel
theorem djdk43m2_3 : decode jdk_43_method_2_code 3 = .ok (.invokestatic 9, 3) := by decide +kernel
theorem djdk43m2_6 : decode jdk_43_method_2_code 6 = .ok (.aload_n 0, 1) := by decide +kernel
theorem djdk43m2_7 : decode jdk_43_method_2_code 7 = .ok (.iload_n 1, 1) := by decide +kernel
theorem djdk43m2_8 : decode jdk_43_method_2_code 8 = .ok (.baload, 1) := by decide +kernel
theorem djdk43m2_9 : decode jdk_43_method_2_code 9 = .ok (.sipush 255, 3) := by decide +kernel
theorem djdk43m2_12 : decode jdk_43_method_2_code 12 = .ok (.iand, 1) := by decide +kernel
theorem djdk43m2_13 : decode jdk_43_method_2_code 13 = .ok (.i2c, 1) := by decide +kernel
theorem djdk43m2_14 : decode jdk_43_method_2_code 14 = .ok (.ireturn, 1) := by decide +kernel
theorem pn_java_lang_StringLatin1 : plainName "java/lang/StringLatin1" = true := by first | (simp [plainName, overriddenIn]; done) | decide +kernel
theorem ef_rm_chL (m : MethodId) (bb : Addr) (kb : ClassId) (nn : Int32) (vs : List Value) (dd : Value) (ii : Int32) (x0 : Int32) (G3 : Value)  : entryFrame m #[(.ref bb), (.int ii)] 2 = mkF m 0 #[.val (.ref bb), .val (.int ii)] [] := by  first | (simp [entryFrame, mkF, argsToLocals, Value.category, maxLocals]; done) | rfl
def Q_rm_chL (Z : State) (bb : Addr) (kb : ClassId) (nn : Int32) (vs : List Value) (dd : Value) (ii : Int32) (x0 : Int32) (G3 : Value) (h0 : Heap) (n0 : Nat) (v : Option Value) (h : Heap) (L : List Loc) : Prop := (v = some (.int (nar .char (x0 &&& (255 : Int32))))) ∧ (Fr n0 L) ∧ (h = h0)
theorem pd__II_V : parseMethodDescriptor "(II)V" = some ⟨[.int, .int], none⟩ := by decide +kernel
set_option maxRecDepth 65536 in
set_option maxHeartbeats 40000000 in
theorem rm_chL (l : Launch) (Z : State) (a0 : Array Value) (hw : ∀ d ∈ tables_1, d.before a0 Z = true) (ws : List Jvm.Cond) (bb : Addr) (kb : ClassId) (nn : Int32) (vs : List Value) (dd : Value) (ii : Int32) (x0 : Int32) (G3 : Value) (h0 : Heap) (n0 : Nat) (Z0 : n0 ≤ h0.size) (O4 : Sta Z Z.heap "jdk/internal/util/Preconditions" "SIOOBE_FORMATTER" "Ljava/util/function/BiFunction;" G3) (rG3 : G3.isRef = true) (f2 : Arv Z h0 bb kb .byte nn vs dd) (hz0 : ¬ ii < 0) (hz1 : ii < nn) (hv : vs.getD ii.toNatClampNeg dd = .int x0) (Old0 : OldL Z n0 h0) :
    MetFree l (⟨"java/lang/StringLatin1", "charAt", "([BI)C"⟩ : MethodName) (head1 (Jvm.Cond.code (⟨"java/lang/StringLatin1", "charAt", "([BI)C"⟩ : MethodName) jdk_43_method_2_code 2 (some .char) :: ws) ({ frames := 2, cells := 0, slots := 0, locals := 27 } : Room)) (fun a U => a = #[(.ref bb), (.int ii)] ∧ Z.Warmed39 U.vm ∧ U.heap = h0) (fun _ _ _ _ _ => True) (fun _ U o U' => ∃ v L, o = .returned v ∧ Q_rm_chL Z bb kb nn vs dd ii x0 G3 h0 n0 v U'.heap L ∧ FrameEnd U o U' L ({ frames := 2, cells := 0, slots := 0, locals := 27 } : Room).cells ({ frames := 2, cells := 0, slots := 0, locals := 27 } : Room).slots) := by
 refine MetFree.of_bodySF (plainFor_of_name pn_java_lang_StringLatin1) hisR ?_
 intro p e s m args below meth c s₁ Bd hml0 hP hK
 obtain ⟨rfl, hZ, hh⟩ := hP
 have hx := Bd.exec
 have hby := Bd.bytes
 have hml : c.maxLocals = 2 := hml0
 have hown : s.vm.findClass "java/lang/StringLatin1" = some m.cls := findClass_of_methodNamed Bd.named
 have hnm := (name_of_methodNamed Bd.named Bd.method).1
 have X0 : Stand p l e ({ frames := 2, cells := 0, slots := 0, locals := 27 } : Room) s m #[(.ref bb), (.int ii)] below meth c s₁ [] 0 0 := Stand.of_body Bd
 have e0 : s₁.heap = h0 := by rw [← hh, Bd.state]; rfl
 have N0 := Fr.nil n0
 have K00 : Keep h0 h0 [] := Keep.refl _ _
 show Rch p e below s₁ (entryFrame m #[(.ref bb), (.int ii)] 2) (FinP s (Q_rm_chL Z bb kb nn vs dd ii x0 G3 h0 n0) 0 0)
 refine Rch.cast (ef_rm_chL m bb kb nn vs dd ii x0 G3) ?_
 show Rch p e below s₁ (mkF m 0 #[.val (.ref bb), .val (.int ii)] []) _
 refine w_iloadN (pc' := 1) X0 hx hby djdk43m2_0 rfl rfl ?_
 refine w_aloadN (pc' := 2) X0 hx hby djdk43m2_1 rfl rfl rfl ?_
 refine Rch.st (fun _ k => own_alen X0 hx hZ e0 f2 rfl rfl (hb hby djdk43m2_2) k) ?_
 show Rch p e below s₁ (mkF m 3 #[.val (.ref bb), .val (.int ii)] [(.int nn), (.int ii)]) _
 obtain ⟨_, _, ⟨T11, L11, k11, n11⟩, -, X11, ⟨Lc11, hQ11, l11, y11, z11⟩, st11⟩ := Jvm.LawKit.callS X0 hx (y := (⟨"java/lang/String", "checkIndex", "(II)V"⟩ : MethodName)) hown (mvT hZ (wi hw 126 rfl)) (mvT hZ (wi hw 127 rfl)) (mvT hZ (wi hw 9 rfl)) (mvT hZ (wi hw 128 rfl)) (by decide) (backOf (W := 0) (rm_ci2 l Z a0 hw [] ii nn G3 h0 n0 Z0 (O4) (rG3) (hz0) (hz1) Old0) hZ (wi hw 128 rfl) (wi hw 9 rfl) (by decide) (by decide)) (g := (mkF m 3 #[.val (.ref bb), .val (.int ii)] [(.int nn), (.int ii)])) rfl (by rw [hml]; rfl) (argsL := [(.int ii), (.int nn)]) (rest := []) (lenOf pd__II_V rfl) rfl (by show 2 * 0 + _ ≤ _; exact Nat.le_of_eq rfl) (hb hby djdk43m2_3) (fun _ _ => ⟨rfl, e0, (by decide : 0 + 0 ≤ _), (by decide : 0 + 0 ≤ _)⟩)
 dsimp only [Pt.U, Pt.locs, Pt.cells, Pt.slots] at X11 l11 y11 z11 st11 hQ11
 subst l11 y11 z11
 obtain ⟨rfl, NQ11, K11⟩ := hQ11
 have N12 := Fr.app N0 NQ11
 refine Rch.st (fun _ k => st11 _ k) ?_
 show Rch p e below T11 (mkF m 6 #[.val (.ref bb), .val (.int ii)] []) _
 refine w_aloadN (pc' := 7) X11 hx hby djdk43m2_6 rfl rfl rfl ?_
 refine w_iloadN (pc' := 8) X11 hx hby djdk43m2_7 rfl rfl ?_
 refine Rch.st (fun _ k => own_ldB X11 hx hZ K11 f2 (j := ii) (⟨hz0, hz1⟩) (hv) rfl rfl (hb hby djdk43m2_8) k) ?_
 show Rch p e below T11 (mkF m 9 #[.val (.ref bb), .val (.int ii)] [(.int x0)]) _
 refine w_sipush (pc' := 12) (v := 255) X11 hx hby djdk43m2_9 rfl rfl ?_
 refine w_iand (pc' := 13) X11 hx hby djdk43m2_12 rfl ?_
 refine w_i2c (pc' := 14) X11 hx hby djdk43m2_13 rfl ?_
 exact Rch.retV X11 hx Bd.returns (XT.narrow_c _) (Or.inl ⟨rfl, by simp, _, rfl⟩) (hb hby djdk43m2_14) (by rw [K11]; exact ⟨rfl, N12, rfl⟩) (by decide) (by decide)

theorem djdk42m56_0 : decode jdk_42_method_56_code 0 = .ok (.aload_n 0, 1) := by decide +kernel
theorem djdk42m56_1 : decode jdk_42_method_56_code 1 = .ok (.invokevirtual 492, 3) := by decide +kernel
theorem djdk42m56_4 : decode jdk_42_method_56_code 4 = .ok (.ifCond .eq 12, 3) := by decide +kernel
theorem djdk42m56_7 : decode jdk_42_method_56_code 7 = .ok (.aload_n 0, 1) := by decide +kernel
theorem djdk42m56_8 : decode jdk_42_method_56_code 8 = .ok (.getfield 9, 3) := by decide +kernel
theorem djdk42m56_11 : decode jdk_42_method_56_code 11 = .ok (.iload_n 1, 1) := by decide +kernel
theorem djdk42m56_12 : decode jdk_42_method_56_code 12 = .ok (.invokestatic 495, 3) := by decide +kernel
theorem djdk42m56_15 : decode jdk_42_method_56_code 15 = .ok (.ireturn, 1) := by decide +kernel
theorem ef_rm_chA (m : MethodId) (G1 : Int32) (aa : Addr) (bb : Addr) (kb : ClassId) (nn : Int32) (vs : List Value) (dd : Value) (ii : Int32) (x0 : Int32) (G3 : Value)  : entryFrame m #[(.ref aa), (.int ii)] 2 = mkF m 0 #[.val (.ref aa), .val (.int ii)] [] := by  first | (simp [entryFrame, mkF, argsToLocals, Value.category, maxLocals]; done) | rfl
def Q_rm_chA (Z : State) (G1 : Int32) (aa : Addr) (bb : Addr) (kb : ClassId) (nn : Int32) (vs : List Value) (dd : Value) (ii : Int32) (x0 : Int32) (G3 : Value) (h0 : Heap) (n0 : Nat) (v : Option Value) (h : Heap) (L : List Loc) : Prop := (v = some (.int (nar .char (x0 &&& (255 : Int32))))) ∧ (Fr n0 L) ∧ (h = h0)
theorem pd___Z : parseMethodDescriptor "()Z" = some ⟨[], (some .boolean)⟩ := by decide +kernel
theorem pd___BI_C : parseMethodDescriptor "([BI)C" = some ⟨[(.array .byte), .int], (some .char)⟩ := by decide +kernel
set_option maxRecDepth 65536 in
set_option maxHeartbeats 40000000 in
theorem rm_chA (l : Launch) (Z : State) (a0 : Array Value) (hw : ∀ d ∈ tables_1, d.before a0 Z = true) (ws : List Jvm.Cond) (G1 : Int32) (aa : Addr) (bb : Addr) (kb : ClassId) (nn : Int32) (vs : List Value) (dd : Value) (ii : Int32) (x0 : Int32) (G3 : Value) (h0 : Heap) (n0 : Nat) (Z0 : n0 ≤ h0.size) (O2 : Sta Z Z.heap "java/lang/String" "COMPACT_STRINGS" "Z" (.int G1)) (P5 : ¬ G1 = 0) (O4 : Sta Z Z.heap "jdk/internal/util/Preconditions" "SIOOBE_FORMATTER" "Ljava/util/function/BiFunction;" G3) (rG3 : G3.isRef = true) (f4 : Exa Z h0 aa "java/lang/String") (f5 : Fld Z h0 aa "java/lang/String" "coder" "B" (.int (0 : Int32))) (f6 : Fld Z h0 aa "java/lang/String" "value" "[B" (.ref bb)) (f7 : Arv Z h0 bb kb .byte nn vs dd) (hz0 : ¬ ii < 0) (hz1 : ii < nn) (hv : vs.getD ii.toNatClampNeg dd = .int x0) (Old0 : OldL Z n0 h0) :
    MetFree l (⟨"java/lang/String", "charAt", "(I)C"⟩ : MethodName) (head1 (Jvm.Cond.code (⟨"java/lang/String", "charAt", "(I)C"⟩ : MethodName) jdk_42_method_56_code 2 (some .char) :: ws) ({ frames := 3, cells := 0, slots := 0, locals := 40 } : Room)) (fun a U => a = #[(.ref aa), (.int ii)] ∧ Z.Warmed39 U.vm ∧ U.heap = h0) (fun _ _ _ _ _ => True) (fun _ U o U' => ∃ v L, o = .returned v ∧ Q_rm_chA Z G1 aa bb kb nn vs dd ii x0 G3 h0 n0 v U'.heap L ∧ FrameEnd U o U' L ({ frames := 3, cells := 0, slots := 0, locals := 40 } : Room).cells ({ frames := 3, cells := 0, slots := 0, locals := 40 } : Room).slots) := by
 refine MetFree.of_bodySF (plainFor_of_name pn_java_lang_String) hisR ?_
 intro p e s m args below meth c s₁ Bd hml0 hP hK
 obtain ⟨rfl, hZ, hh⟩ := hP
 have hx := Bd.exec
 have hby := Bd.bytes
 have hml : c.maxLocals = 2 := hml0
 have hown : s.vm.findClass "java/lang/String" = some m.cls := findClass_of_methodNamed Bd.named
 have hnm := (name_of_methodNamed Bd.named Bd.method).1
 have X0 : Stand p l e ({ frames := 3, cells := 0, slots := 0, locals := 40 } : Room) s m #[(.ref aa), (.int ii)] below meth c s₁ [] 0 0 := Stand.of_body Bd
 have e0 : s₁.heap = h0 := by rw [← hh, Bd.state]; rfl
 have N0 := Fr.nil n0
 have K00 : Keep h0 h0 [] := Keep.refl _ _
 show Rch p e below s₁ (entryFrame m #[(.ref aa), (.int ii)] 2) (FinP s (Q_rm_chA Z G1 aa bb kb nn vs dd ii x0 G3 h0 n0) 0 0)
 refine Rch.cast (ef_rm_chA m G1 aa bb kb nn vs dd ii x0 G3) ?_
 show Rch p e below s₁ (mkF m 0 #[.val (.ref aa), .val (.int ii)] []) _
 refine w_aloadN (pc' := 1) X0 hx hby djdk42m56_0 rfl rfl rfl ?_
 obtain ⟨cq13, kq13, q13a, q13b, q13c⟩ := isOf hZ e0 f4
 obtain ⟨_, _, ⟨T13, L13, k13, n13⟩, -, X13, ⟨Lc13, hQ13, l13, y13, z13⟩, st13⟩ := X0.virtualBack hx (y := (⟨"java/lang/String", "isLatin1", "()Z"⟩ : MethodName)) (z := (⟨"java/lang/String", "isLatin1", "()Z"⟩ : MethodName)) hown (mvT hZ (wi hw 43 rfl)) (mvT hZ (wi hw 44 rfl)) (notFace_of_selects (args := #[]) (mvT hZ (wi hw 46 rfl))) (mvT hZ (wi hw 46 rfl)) (mvT hZ (wi hw 45 rfl)) (by decide) (backOf (W := 0) (rm_isl l Z a0 hw [] G1 aa h0 n0 Z0 (O2) (P5) f5 Old0) hZ (wi hw 47 rfl) (wi hw 9 rfl) (by decide) (by decide)) q13a q13c (g := (mkF m 1 #[.val (.ref aa), .val (.int ii)] [(.ref aa)])) rfl (by rw [hml]; rfl) (Steps.refl _) (argsL := []) (rest := []) (lenOf pd___Z rfl) rfl (by show 2 * 0 + _ ≤ _; exact Nat.le_of_eq rfl) (hb hby djdk42m56_1) (fun _ _ => ⟨rfl, e0, (by decide : 0 + 0 ≤ _), (by decide : 0 + 0 ≤ _)⟩)
 dsimp only [Pt.U, Pt.locs, Pt.cells, Pt.slots] at X13 l13 y13 z13 st13 hQ13
 subst l13 y13 z13
 obtain ⟨rfl, NQ13, K13⟩ := hQ13
 have N14 := Fr.app N0 NQ13
 refine Rch.st (fun _ k => st13.trans k) ?_
 show Rch p e below T13 (mkF m 4 #[.val (.ref aa), .val (.int ii)] [(.int 1)]) _
 refine w_ifNo (pc' := 7) X13 hx hby djdk42m56_4 (XT.i0_eq_f (by decide)) rfl ?_
 refine w_aloadN (pc' := 8) X13 hx hby djdk42m56_7 rfl rfl rfl ?_
 obtain ⟨T15, X15, e15, st15⟩ := getF X13 hx hZ hown (host := "") (Or.inl (wi hw 30 rfl)) Via.refl K13 f6 (g := (mkF m 8 #[.val (.ref aa), .val (.int ii)] [(.ref aa)])) rfl rfl (hb hby djdk42m56_8)
 refine Rch.st (fun _ k => st15 _ k) ?_
 show Rch p e below T15 (mkF m 11 #[.val (.ref aa), .val (.int ii)] [(.ref bb)]) _
 refine w_iloadN (pc' := 12) X15 hx hby djdk42m56_11 rfl rfl ?_
 obtain ⟨_, _, ⟨T16, L16, k16, n16⟩, -, X16, ⟨Lc16, hQ16, l16, y16, z16⟩, st16⟩ := Jvm.LawKit.callS X15 hx (y := (⟨"java/lang/StringLatin1", "charAt", "([BI)C"⟩ : MethodName)) hown (mvT hZ (wi hw 123 rfl)) (mvT hZ (wi hw 124 rfl)) (mvT hZ (wi hw 50 rfl)) (mvT hZ (wi hw 125 rfl)) (by decide) (backOf (W := 0) (rm_chL l Z a0 hw [] bb kb nn vs dd ii x0 G3 h0 n0 Z0 (O4) (rG3) f7 (hz0) (hz1) (hv) Old0) hZ (wi hw 125 rfl) (wi hw 50 rfl) (by decide) (by decide)) (g := (mkF m 12 #[.val (.ref aa), .val (.int ii)] [(.int ii), (.ref bb)])) rfl (by rw [hml]; rfl) (argsL := [(.ref bb), (.int ii)]) (rest := []) (lenOf pd___BI_C rfl) rfl (by show 2 * 0 + _ ≤ _; exact Nat.le_of_eq rfl) (hb hby djdk42m56_12) (fun _ _ => ⟨rfl, e15, (by decide : 0 + 0 ≤ _), (by decide : 0 + 0 ≤ _)⟩)
 dsimp only [Pt.U, Pt.locs, Pt.cells, Pt.slots] at X16 l16 y16 z16 st16 hQ16
 subst l16 y16 z16
 obtain ⟨rfl, NQ16, K16⟩ := hQ16
 have N17 := Fr.app N14 NQ16
 refine Rch.st (fun _ k => st16 _ k) ?_
 show Rch p e below T16 (mkF m 15 #[.val (.ref aa), .val (.int ii)] [(.int (nar .char (x0 &&& (255 : Int32))))]) _
 exact Rch.retV X16 hx Bd.returns (XT.narrow_c _) (Or.inl ⟨rfl, by simp, _, rfl⟩) (hb hby djdk42m56_15) (by rw [K16]; exact ⟨rfl, N17, rfl⟩) (by decide) (by decide)

theorem djdk29m69_0 : decode jdk_29_method_69_code 0 = .ok (.iload_n 0, 1) := by decide +kernel
theorem djdk29m69_1 : decode jdk_29_method_69_code 1 = .ok (.iload_n 1, 1) := by decide +kernel
theorem djdk29m69_2 : decode jdk_29_method_69_code 2 = .ok (.if_icmp .gt 7, 3) := by decide +kernel
theorem djdk29m69_5 : decode jdk_29_method_69_code 5 = .ok (.iload_n 0, 1) := by decide +kernel
theorem djdk29m69_6 : decode jdk_29_method_69_code 6 = .ok (.goto 4, 3) := by decide +kernel
theorem djdk29m69_9 : decode jdk_29_method_69_code 9 = .ok (.iload_n 1, 1) := by decide +kernel
theorem djdk29m69_10 : decode jdk_29_method_69_code 10 = .ok (.ireturn, 1) := by decide +kernel
theorem ef_rm_min32 (m : MethodId) (xx : Int32) (yy : Int32)  : entryFrame m #[(.int xx), (.int yy)] 2 = mkF m 0 #[.val (.int xx), .val (.int yy)] [] := by  first | (simp [entryFrame, mkF, argsToLocals, Value.category, maxLocals]; done) | rfl
def Q_rm_min32 (Z : State) (xx : Int32) (yy : Int32) (h0 : Heap) (n0 : Nat) (v : Option Value) (h : Heap) (L : List Loc) : Prop := (v = some (.int (own_min32 xx yy))) ∧ (Fr n0 L) ∧ (h = h0)
set_option maxRecDepth 65536 in
set_option maxHeartbeats 40000000 in
theorem rm_min32 (l : Launch) (Z : State) (a0 : Array Value) (hw : ∀ d ∈ tables_1, d.before a0 Z = true) (ws : List Jvm.Cond) (xx : Int32) (yy : Int32) (h0 : Heap) (n0 : Nat) (Z0 : n0 ≤ h0.size)  :
    MetFree l (⟨"java/lang/Math", "min", "(II)I"⟩ : MethodName) (head1 (Jvm.Cond.code (⟨"java/lang/Math", "min", "(II)I"⟩ : MethodName) jdk_29_method_69_code 2 (some .int) :: ws) ({ frames := 0, cells := 0, slots := 0, locals := 0 } : Room)) (fun a U => a = #[(.int xx), (.int yy)] ∧ Z.Warmed39 U.vm ∧ U.heap = h0) (fun _ _ _ _ _ => True) (fun _ U o U' => ∃ v L, o = .returned v ∧ Q_rm_min32 Z xx yy h0 n0 v U'.heap L ∧ FrameEnd U o U' L ({ frames := 0, cells := 0, slots := 0, locals := 0 } : Room).cells ({ frames := 0, cells := 0, slots := 0, locals := 0 } : Room).slots) := by
 refine MetFree.of_bodySF (Jvm.Free.JP.mathPlain rfl (by decide +kernel)) hisR ?_
 intro p e s m args below meth c s₁ Bd hml0 hP hK
 obtain ⟨rfl, hZ, hh⟩ := hP
 have hx := Bd.exec
 have hby := Bd.bytes
 have hml : c.maxLocals = 2 := hml0
 have hown : s.vm.findClass "java/lang/Math" = some m.cls := findClass_of_methodNamed Bd.named
 have hnm := (name_of_methodNamed Bd.named Bd.method).1
 have X0 : Stand p l e ({ frames := 0, cells := 0, slots := 0, locals := 0 } : Room) s m #[(.int xx), (.int yy)] below meth c s₁ [] 0 0 := Stand.of_body Bd
 have e0 : s₁.heap = h0 := by rw [← hh, Bd.state]; rfl
 have N0 := Fr.nil n0
 have K00 : Keep h0 h0 [] := Keep.refl _ _
 show Rch p e below s₁ (entryFrame m #[(.int xx), (.int yy)] 2) (FinP s (Q_rm_min32 Z xx yy h0 n0) 0 0)
 refine Rch.cast (ef_rm_min32 m xx yy) ?_
 show Rch p e below s₁ (mkF m 0 #[.val (.int xx), .val (.int yy)] []) _
 refine w_iloadN (pc' := 1) X0 hx hby djdk29m69_0 rfl rfl ?_
 refine w_iloadN (pc' := 2) X0 hx hby djdk29m69_1 rfl rfl ?_
 by_cases c18 : yy < xx
 ·skip
  refine w_icmpYes (pc' := 9) X0 hx hby djdk29m69_2 (XT.ii_gt_t (c18)) (by decide) ?_
  refine w_iloadN (pc' := 10) X0 hx hby djdk29m69_9 rfl rfl ?_
  exact Rch.retV X0 hx Bd.returns rfl (Or.inl ⟨rfl, by simp, _, rfl⟩) (hb hby djdk29m69_10) (by rw [e0]; exact ⟨by simp [own_min32, c18], N0, rfl⟩) (by decide) (by decide)
 ·skip
  refine w_icmpNo (pc' := 5) X0 hx hby djdk29m69_2 (XT.ii_gt_f (c18)) rfl ?_
  refine w_iloadN (pc' := 6) X0 hx hby djdk29m69_5 rfl rfl ?_
  refine w_goto (pc' := 10) X0 hx hby djdk29m69_6 (by decide) ?_
  exact Rch.retV X0 hx Bd.returns rfl (Or.inl ⟨rfl, by simp, _, rfl⟩) (hb hby djdk29m69_10) (by rw [e0]; exact ⟨by simp [own_min32, c18], N0, rfl⟩) (by decide) (by decide)

theorem djdk65m131_0 : decode jdk_65_method_131_code 0 = .ok (.iload_n 1, 1) := by decide +kernel
theorem djdk65m131_1 : decode jdk_65_method_131_code 1 = .ok (.iload_n 0, 1) := by decide +kernel
theorem djdk65m131_2 : decode jdk_65_method_131_code 2 = .ok (.if_icmp .ge 35, 3) := by decide +kernel
theorem djdk65m131_37 : decode jdk_65_method_131_code 37 = .ok (.return_, 1) := by decide +kernel
theorem pn_java_util_Arrays : plainName "java/util/Arrays" = true := by first | (simp [plainName, overriddenIn]; done) | decide +kernel
theorem ef_rm_ckl (m : MethodId) (fr : Int32) (to : Int32)  : entryFrame m #[(.int fr), (.int to)] 2 = mkF m 0 #[.val (.int fr), .val (.int to)] [] := by  first | (simp [entryFrame, mkF, argsToLocals, Value.category, maxLocals]; done) | rfl
def Q_rm_ckl (Z : State) (fr : Int32) (to : Int32) (h0 : Heap) (n0 : Nat) (v : Option Value) (h : Heap) (L : List Loc) : Prop := (v = none) ∧ (Fr n0 L) ∧ (h = h0)
set_option maxRecDepth 65536 in
set_option maxHeartbeats 40000000 in
theorem rm_ckl (l : Launch) (Z : State) (a0 : Array Value) (hw : ∀ d ∈ tables_1, d.before a0 Z = true) (ws : List Jvm.Cond) (fr : Int32) (to : Int32) (h0 : Heap) (n0 : Nat) (Z0 : n0 ≤ h0.size) (hz0 : ¬ to < fr) :
    MetFree l (⟨"java/util/Arrays", "checkLength", "(II)V"⟩ : MethodName) (head1 (Jvm.Cond.code (⟨"java/util/Arrays", "checkLength", "(II)V"⟩ : MethodName) jdk_65_method_131_code 2 none :: ws) ({ frames := 0, cells := 0, slots := 0, locals := 0 } : Room)) (fun a U => a = #[(.int fr), (.int to)] ∧ Z.Warmed39 U.vm ∧ U.heap = h0) (fun _ _ _ _ _ => True) (fun _ U o U' => ∃ v L, o = .returned v ∧ Q_rm_ckl Z fr to h0 n0 v U'.heap L ∧ FrameEnd U o U' L ({ frames := 0, cells := 0, slots := 0, locals := 0 } : Room).cells ({ frames := 0, cells := 0, slots := 0, locals := 0 } : Room).slots) := by
 refine MetFree.of_bodySF (plainFor_of_name pn_java_util_Arrays) hisR ?_
 intro p e s m args below meth c s₁ Bd hml0 hP hK
 obtain ⟨rfl, hZ, hh⟩ := hP
 have hx := Bd.exec
 have hby := Bd.bytes
 have hml : c.maxLocals = 2 := hml0
 have hown : s.vm.findClass "java/util/Arrays" = some m.cls := findClass_of_methodNamed Bd.named
 have hnm := (name_of_methodNamed Bd.named Bd.method).1
 have X0 : Stand p l e ({ frames := 0, cells := 0, slots := 0, locals := 0 } : Room) s m #[(.int fr), (.int to)] below meth c s₁ [] 0 0 := Stand.of_body Bd
 have e0 : s₁.heap = h0 := by rw [← hh, Bd.state]; rfl
 have N0 := Fr.nil n0
 have K00 : Keep h0 h0 [] := Keep.refl _ _
 show Rch p e below s₁ (entryFrame m #[(.int fr), (.int to)] 2) (FinP s (Q_rm_ckl Z fr to h0 n0) 0 0)
 refine Rch.cast (ef_rm_ckl m fr to) ?_
 show Rch p e below s₁ (mkF m 0 #[.val (.int fr), .val (.int to)] []) _
 refine w_iloadN (pc' := 1) X0 hx hby djdk65m131_0 rfl rfl ?_
 refine w_iloadN (pc' := 2) X0 hx hby djdk65m131_1 rfl rfl ?_
 refine w_icmpYes (pc' := 37) X0 hx hby djdk65m131_2 (XT.ii_ge_t (hz0)) (by decide) ?_
 exact Rch.ret0 X0 hx Bd.returns (hb hby djdk65m131_37) (by rw [e0]; exact ⟨rfl, N0, rfl⟩) (by decide) (by decide)

theorem djdk65m133_0 : decode jdk_65_method_133_code 0 = .ok (.iload_n 1, 1) := by decide +kernel
theorem djdk65m133_1 : decode jdk_65_method_133_code 1 = .ok (.iload_n 2, 1) := by decide +kernel
theorem djdk65m133_2 : decode jdk_65_method_133_code 2 = .ok (.invokestatic 343, 3) := by decide +kernel
theorem djdk65m133_5 : decode jdk_65_method_133_code 5 = .ok (.iload_n 2, 1) := by decide +kernel
theorem djdk65m133_6 : decode jdk_65_method_133_code 6 = .ok (.iload_n 1, 1) := by decide +kernel
theorem djdk65m133_7 : decode jdk_65_method_133_code 7 = .ok (.isub, 1) := by decide +kernel
theorem djdk65m133_8 : decode jdk_65_method_133_code 8 = .ok (.istore_n 3, 1) := by decide +kernel
theorem djdk65m133_9 : decode jdk_65_method_133_code 9 = .ok (.iload_n 3, 1) := by decide +kernel
theorem djdk65m133_10 : decode jdk_65_method_133_code 10 = .ok (.newarray .byte, 2) := by decide +kernel
theorem djdk65m133_12 : decode jdk_65_method_133_code 12 = .ok (.astore 4, 2) := by decide +kernel
theorem djdk65m133_14 : decode jdk_65_method_133_code 14 = .ok (.aload_n 0, 1) := by decide +kernel
theorem djdk65m133_15 : decode jdk_65_method_133_code 15 = .ok (.iload_n 1, 1) := by decide +kernel
theorem djdk65m133_16 : decode jdk_65_method_133_code 16 = .ok (.aload 4, 2) := by decide +kernel
theorem djdk65m133_18 : decode jdk_65_method_133_code 18 = .ok (.iconst 0, 1) := by decide +kernel
theorem djdk65m133_19 : decode jdk_65_method_133_code 19 = .ok (.aload_n 0, 1) := by decide +kernel
theorem djdk65m133_20 : decode jdk_65_method_133_code 20 = .ok (.arraylength, 1) := by decide +kernel
theorem djdk65m133_21 : decode jdk_65_method_133_code 21 = .ok (.iload_n 1, 1) := by decide +kernel
theorem djdk65m133_22 : decode jdk_65_method_133_code 22 = .ok (.isub, 1) := by decide +kernel
theorem djdk65m133_23 : decode jdk_65_method_133_code 23 = .ok (.iload_n 3, 1) := by decide +kernel
theorem djdk65m133_24 : decode jdk_65_method_133_code 24 = .ok (.invokestatic 304, 3) := by decide +kernel
theorem djdk65m133_27 : decode jdk_65_method_133_code 27 = .ok (.invokestatic 150, 3) := by decide +kernel
theorem djdk65m133_30 : decode jdk_65_method_133_code 30 = .ok (.aload 4, 2) := by decide +kernel
theorem djdk65m133_32 : decode jdk_65_method_133_code 32 = .ok (.areturn, 1) := by decide +kernel
theorem ef_rm_crb (m : MethodId) (bb : Addr) (kb : ClassId) (nn : Int32) (vs : List Value) (dd : Value) (en : Int32)  : entryFrame m #[(.ref bb), (.int (0 : Int32)), (.int en)] 5 = mkF m 0 #[.val (.ref bb), .val (.int (0 : Int32)), .val (.int en), .unset, .unset] [] := by  first | (simp [entryFrame, mkF, argsToLocals, Value.category, maxLocals]; done) | rfl
def Q_rm_crb (Z : State) (bb : Addr) (kb : ClassId) (nn : Int32) (vs : List Value) (dd : Value) (en : Int32) (h0 : Heap) (n0 : Nat) (v : Option Value) (h : Heap) (L : List Loc) : Prop := ∃ (t : Addr) (kt : ClassId), (v = some (.ref t)) ∧ (Fr n0 L) ∧ (Keep h0 h []) ∧ (h0.size ≤ t) ∧ (Arv Z h t kt .byte en (own_take vs dd en.toNatClampNeg) (.int (0 : Int32)))
theorem pd__II_I : parseMethodDescriptor "(II)I" = some ⟨[.int, .int], (some .int)⟩ := by decide +kernel
set_option maxRecDepth 65536 in
set_option maxHeartbeats 40000000 in
theorem rm_crb (l : Launch) (Z : State) (a0 : Array Value) (hw : ∀ d ∈ tables_1, d.before a0 Z = true) (ws : List Jvm.Cond) (bb : Addr) (kb : ClassId) (nn : Int32) (vs : List Value) (dd : Value) (en : Int32) (h0 : Heap) (n0 : Nat) (Z0 : n0 ≤ h0.size) (f0 : Arv Z h0 bb kb .byte nn vs dd) (hz0 : ¬ en < 0) (hc : en.toNatClampNeg ≤ 8) (hm : own_min32 nn en = en) (hl : en.toNatClampNeg ≤ nn.toNatClampNeg) :
    MetFree l (⟨"java/util/Arrays", "copyOfRangeByte", "([BII)[B"⟩ : MethodName) (head1 (Jvm.Cond.code (⟨"java/util/Arrays", "copyOfRangeByte", "([BII)[B"⟩ : MethodName) jdk_65_method_133_code 5 (some (.array .byte)) :: ws) ({ frames := 1, cells := 1, slots := 8, locals := 18 } : Room)) (fun a U => a = #[(.ref bb), (.int (0 : Int32)), (.int en)] ∧ Z.Warmed39 U.vm ∧ U.heap = h0) (fun _ _ _ _ _ => True) (fun _ U o U' => ∃ v L, o = .returned v ∧ Q_rm_crb Z bb kb nn vs dd en h0 n0 v U'.heap L ∧ FrameEnd U o U' L ({ frames := 1, cells := 1, slots := 8, locals := 18 } : Room).cells ({ frames := 1, cells := 1, slots := 8, locals := 18 } : Room).slots) := by
 refine MetFree.of_bodySF (plainFor_of_name pn_java_util_Arrays) hisR ?_
 intro p e s m args below meth c s₁ Bd hml0 hP hK
 obtain ⟨rfl, hZ, hh⟩ := hP
 have hx := Bd.exec
 have hby := Bd.bytes
 have hml : c.maxLocals = 5 := hml0
 have hown : s.vm.findClass "java/util/Arrays" = some m.cls := findClass_of_methodNamed Bd.named
 have hnm := (name_of_methodNamed Bd.named Bd.method).1
 have X0 : Stand p l e ({ frames := 1, cells := 1, slots := 8, locals := 18 } : Room) s m #[(.ref bb), (.int (0 : Int32)), (.int en)] below meth c s₁ [] 0 0 := Stand.of_body Bd
 have e0 : s₁.heap = h0 := by rw [← hh, Bd.state]; rfl
 have N0 := Fr.nil n0
 have K00 : Keep h0 h0 [] := Keep.refl _ _
 show Rch p e below s₁ (entryFrame m #[(.ref bb), (.int (0 : Int32)), (.int en)] 5) (FinP s (Q_rm_crb Z bb kb nn vs dd en h0 n0) 1 8)
 refine Rch.cast (ef_rm_crb m bb kb nn vs dd en) ?_
 show Rch p e below s₁ (mkF m 0 #[.val (.ref bb), .val (.int 0), .val (.int en), .unset, .unset] []) _
 refine w_iloadN (pc' := 1) X0 hx hby djdk65m133_0 rfl rfl ?_
 refine w_iloadN (pc' := 2) X0 hx hby djdk65m133_1 rfl rfl ?_
 obtain ⟨_, _, ⟨T19, L19, k19, n19⟩, -, X19, ⟨Lc19, hQ19, l19, y19, z19⟩, st19⟩ := Jvm.LawKit.callS X0 hx (y := (⟨"java/util/Arrays", "checkLength", "(II)V"⟩ : MethodName)) hown (mvT hZ (wi hw 107 rfl)) (mvT hZ (wi hw 108 rfl)) (mvT hZ (wi hw 102 rfl)) (mvT hZ (wi hw 109 rfl)) (by decide) (backOf (W := 0) (rm_ckl l Z a0 hw [] 0 en h0 n0 Z0 (hz0)) hZ (wi hw 109 rfl) (wi hw 102 rfl) (by decide) (by decide)) (g := (mkF m 2 #[.val (.ref bb), .val (.int 0), .val (.int en), .unset, .unset] [(.int en), (.int 0)])) rfl (by rw [hml]; rfl) (argsL := [(.int 0), (.int en)]) (rest := []) (lenOf pd__II_V rfl) rfl (by show 2 * 0 + _ ≤ _; exact Nat.le_of_eq rfl) (hb hby djdk65m133_2) (fun _ _ => ⟨rfl, e0, (by decide : 0 + 0 ≤ _), (by decide : 0 + 0 ≤ _)⟩)
 dsimp only [Pt.U, Pt.locs, Pt.cells, Pt.slots] at X19 l19 y19 z19 st19 hQ19
 subst l19 y19 z19
 obtain ⟨rfl, NQ19, K19⟩ := hQ19
 have N20 := Fr.app N0 NQ19
 refine Rch.st (fun _ k => st19 _ k) ?_
 show Rch p e below T19 (mkF m 5 #[.val (.ref bb), .val (.int 0), .val (.int en), .unset, .unset] []) _
 refine w_iloadN (pc' := 6) X19 hx hby djdk65m133_5 rfl rfl ?_
 refine w_iloadN (pc' := 7) X19 hx hby djdk65m133_6 rfl rfl ?_
 refine w_isub (pc' := 8) X19 hx hby djdk65m133_7 rfl ?_
 have r21 : (en - (0 : Int32)) = en := by simp
 rw [r21]
 show Rch p e below T19 (mkF m 8 #[.val (.ref bb), .val (.int 0), .val (.int en), .unset, .unset] [(.int en)]) _
 refine w_istoreN (pc' := 9) (l' := #[.val (.ref bb), .val (.int 0), .val (.int en), .val (.int en), .unset]) X19 hx hby djdk65m133_8 rfl rfl ?_
 refine w_iloadN (pc' := 10) X19 hx hby djdk65m133_9 rfl rfl ?_
 obtain ⟨T22, h22, kc22, X22, e22, E22, A22, st22⟩ := newP X19 hx hZ (wi hw 11 rfl) K19 (g := (mkF m 10 #[.val (.ref bb), .val (.int 0), .val (.int en), .val (.int en), .unset] [(.int en)])) rfl (hb hby djdk65m133_10) rfl (hz0) (cap := 8) (hc) (by decide) (by decide) (by decide)
 obtain ⟨a22, g22⟩ : ∃ z, z = h0.size := ⟨_, rfl⟩
 rw [← g22] at A22 st22
 have ge24 : n0 ≤ a22 := Nat.le_trans Z0 (Nat.le_of_eq g22.symm)
 have f26 := f0.ext E22
 have Z27 := Nat.le_trans Z0 E22.1
 have Kp28 : Keep h0 h22 [] := K00.ext E22
 have f29 : Arv Z h22 a22 kc22 .byte en ([] : List Value) (Value.int (0 : Int32)) := Arv.new A22 (hz0)
 refine Rch.st (fun _ k => st22 _ k) ?_
 show Rch p e below T22 (mkF m 12 #[.val (.ref bb), .val (.int 0), .val (.int en), .val (.int en), .unset] [(.ref a22)]) _
 refine w_astore (pc' := 14) (l' := #[.val (.ref bb), .val (.int 0), .val (.int en), .val (.int en), .val (.ref a22)]) X22 hx hby djdk65m133_12 rfl rfl rfl ?_
 refine w_aloadN (pc' := 15) X22 hx hby djdk65m133_14 rfl rfl rfl ?_
 refine w_iloadN (pc' := 16) X22 hx hby djdk65m133_15 rfl rfl ?_
 refine w_aload (pc' := 18) X22 hx hby djdk65m133_16 rfl rfl rfl ?_
 refine w_iconst (pc' := 19) (v := 0) X22 hx hby djdk65m133_18 rfl rfl ?_
 refine w_aloadN (pc' := 20) X22 hx hby djdk65m133_19 rfl rfl rfl ?_
 refine Rch.st (fun _ k => own_alen X22 hx hZ e22 f26 rfl rfl (hb hby djdk65m133_20) k) ?_
 show Rch p e below T22 (mkF m 21 #[.val (.ref bb), .val (.int 0), .val (.int en), .val (.int en), .val (.ref a22)] [(.int nn), (.int 0), (.ref a22), (.int 0), (.ref bb)]) _
 refine w_iloadN (pc' := 22) X22 hx hby djdk65m133_21 rfl rfl ?_
 refine w_isub (pc' := 23) X22 hx hby djdk65m133_22 rfl ?_
 have r30 : (nn - (0 : Int32)) = nn := by simp
 rw [r30]
 show Rch p e below T22 (mkF m 23 #[.val (.ref bb), .val (.int 0), .val (.int en), .val (.int en), .val (.ref a22)] [(.int nn), (.int 0), (.ref a22), (.int 0), (.ref bb)]) _
 refine w_iloadN (pc' := 24) X22 hx hby djdk65m133_23 rfl rfl ?_
 obtain ⟨_, _, ⟨T31, L31, k31, n31⟩, -, X31, ⟨Lc31, hQ31, l31, y31, z31⟩, st31⟩ := Jvm.LawKit.callS X22 hx (y := (⟨"java/lang/Math", "min", "(II)I"⟩ : MethodName)) hown (mvT hZ (wi hw 110 rfl)) (mvT hZ (wi hw 56 rfl)) (mvT hZ (wi hw 57 rfl)) (mvT hZ (wi hw 58 rfl)) (by decide) (backOf (W := 4) (rm_min32 l Z a0 hw [] nn en h22 n0 Z27 ) hZ (wi hw 58 rfl) (wi hw 57 rfl) (by decide) (by decide)) (g := (mkF m 24 #[.val (.ref bb), .val (.int 0), .val (.int en), .val (.int en), .val (.ref a22)] [(.int en), (.int nn), (.int 0), (.ref a22), (.int 0), (.ref bb)])) rfl (by rw [hml]; rfl) (argsL := [(.int nn), (.int en)]) (rest := [(.int 0), (.ref a22), (.int 0), (.ref bb)]) (lenOf pd__II_I rfl) rfl (by show 2 * 0 + _ ≤ _; exact Nat.le_of_eq rfl) (hb hby djdk65m133_24) (fun _ _ => ⟨rfl, e22, (by decide : 1 + 0 ≤ _), (by decide : 8 + 0 ≤ _)⟩)
 dsimp only [Pt.U, Pt.locs, Pt.cells, Pt.slots] at X31 l31 y31 z31 st31 hQ31
 subst l31 y31 z31
 obtain ⟨rfl, NQ31, K31⟩ := hQ31
 have N32 := Fr.app N20 NQ31
 refine Rch.st (fun _ k => st31 _ k) ?_
 show Rch p e below T31 (mkF m 27 #[.val (.ref bb), .val (.int 0), .val (.int en), .val (.int en), .val (.ref a22)] [(.int (own_min32 nn en)), (.int 0), (.ref a22), (.int 0), (.ref bb)]) _
 have r33 : (own_min32 nn en) = en := hm
 rw [r33]
 show Rch p e below T31 (mkF m 27 #[.val (.ref bb), .val (.int 0), .val (.int en), .val (.int en), .val (.ref a22)] [(.int en), (.int 0), (.ref a22), (.int 0), (.ref bb)]) _
 have f34 : Arv Z h22 a22 kc22 .byte en (([] : List Value) ++ List.replicate en.toNatClampNeg (Value.int (0 : Int32))) (Value.int (0 : Int32)) := f29.pad (pad_rep ([] : List Value) (Value.int (0 : Int32)) en.toNatClampNeg)
 obtain ⟨T35, h35, L35, X35, e35, N35, K35, V35, st35⟩ := cpA (us := (own_take vs dd en.toNatClampNeg)) X31 hx hZ hown (wi hw 111 rfl) (wi hw 114 rfl) (wi hw 112 rfl) (wi hw 113 rfl) K31 f26 f34 (Or.inl ⟨rfl, rfl⟩) (by decide) (by decide) (hz0) (by rw [own_z0, Nat.zero_add]; exact hl) (by rw [own_z0, Nat.zero_add]; exact Nat.le_refl _) (own_take_hus _ _ _) (by rw [own_z0]; simp) N32 ge24 (g := (mkF m 27 #[.val (.ref bb), .val (.int 0), .val (.int en), .val (.int en), .val (.ref a22)] [(.int en), (.int 0), (.ref a22), (.int 0), (.ref bb)])) rfl (by rw [hml]; rfl) rfl (hb hby djdk65m133_27) (by decide) (W := 0) (by show 2 * 0 + _ ≤ _; exact Nat.le_of_eq rfl) (by decide)
 have Kp38 : Keep h0 h35 [] := Kp28.trans K35 (allS (Or.inr (Nat.le_trans K00.1 (Nat.le_of_eq g22.symm))) all0)
 have f39 : Arv Z h35 a22 kc22 .byte en (own_take vs dd en.toNatClampNeg) (Value.int (0 : Int32)) := by have z := V35; rw [show (([] : List Value) ++ List.replicate en.toNatClampNeg (Value.int (0 : Int32))).take (0 : Int32).toNatClampNeg ++ (own_take vs dd en.toNatClampNeg) ++ (([] : List Value) ++ List.replicate en.toNatClampNeg (Value.int (0 : Int32))).drop ((0 : Int32).toNatClampNeg + en.toNatClampNeg) = (own_take vs dd en.toNatClampNeg) from by rw [own_z0]; simp] at z; exact z
 refine Rch.st (fun _ k => st35 _ k) ?_
 show Rch p e below T35 (mkF m 30 #[.val (.ref bb), .val (.int 0), .val (.int en), .val (.int en), .val (.ref a22)] []) _
 refine w_aload (pc' := 32) X35 hx hby djdk65m133_30 rfl rfl rfl ?_
 exact Rch.retV X35 hx Bd.returns rfl (Or.inr (Or.inr (Or.inr (Or.inr ⟨rfl, rfl, rfl⟩)))) (hb hby djdk65m133_32) (by rw [e35]; exact ⟨a22, kc22, rfl, N35, Kp38, (Nat.le_trans K00.1 (Nat.le_of_eq g22.symm)), f39⟩) (by decide) (by decide)

theorem djdk65m132_0 : decode jdk_65_method_132_code 0 = .ok (.iload_n 1, 1) := by decide +kernel
theorem djdk65m132_1 : decode jdk_65_method_132_code 1 = .ok (.ifCond .ne 9, 3) := by decide +kernel
theorem djdk65m132_4 : decode jdk_65_method_132_code 4 = .ok (.iload_n 2, 1) := by decide +kernel
theorem djdk65m132_5 : decode jdk_65_method_132_code 5 = .ok (.aload_n 0, 1) := by decide +kernel
theorem djdk65m132_6 : decode jdk_65_method_132_code 6 = .ok (.arraylength, 1) := by decide +kernel
theorem djdk65m132_7 : decode jdk_65_method_132_code 7 = .ok (.if_icmp .eq 10, 3) := by decide +kernel
theorem djdk65m132_10 : decode jdk_65_method_132_code 10 = .ok (.aload_n 0, 1) := by decide +kernel
theorem djdk65m132_11 : decode jdk_65_method_132_code 11 = .ok (.iload_n 1, 1) := by decide +kernel
theorem djdk65m132_12 : decode jdk_65_method_132_code 12 = .ok (.iload_n 2, 1) := by decide +kernel
theorem djdk65m132_13 : decode jdk_65_method_132_code 13 = .ok (.invokestatic 339, 3) := by decide +kernel
theorem djdk65m132_16 : decode jdk_65_method_132_code 16 = .ok (.areturn, 1) := by decide +kernel
theorem ef_rm_cr (m : MethodId) (bb : Addr) (kb : ClassId) (nn : Int32) (vs : List Value) (dd : Value) (en : Int32)  : entryFrame m #[(.ref bb), (.int (0 : Int32)), (.int en)] 3 = mkF m 0 #[.val (.ref bb), .val (.int (0 : Int32)), .val (.int en)] [] := by  first | (simp [entryFrame, mkF, argsToLocals, Value.category, maxLocals]; done) | rfl
def Q_rm_cr (Z : State) (bb : Addr) (kb : ClassId) (nn : Int32) (vs : List Value) (dd : Value) (en : Int32) (h0 : Heap) (n0 : Nat) (v : Option Value) (h : Heap) (L : List Loc) : Prop := ∃ (t : Addr) (kt : ClassId), (v = some (.ref t)) ∧ (Fr n0 L) ∧ (Keep h0 h []) ∧ (h0.size ≤ t) ∧ (Arv Z h t kt .byte en (own_take vs dd en.toNatClampNeg) (.int (0 : Int32)))
theorem pd___BII__B : parseMethodDescriptor "([BII)[B" = some ⟨[(.array .byte), .int, .int], (some (.array .byte))⟩ := by decide +kernel
set_option maxRecDepth 65536 in
set_option maxHeartbeats 40000000 in
theorem rm_cr (l : Launch) (Z : State) (a0 : Array Value) (hw : ∀ d ∈ tables_1, d.before a0 Z = true) (ws : List Jvm.Cond) (bb : Addr) (kb : ClassId) (nn : Int32) (vs : List Value) (dd : Value) (en : Int32) (h0 : Heap) (n0 : Nat) (Z0 : n0 ≤ h0.size) (f0 : Arv Z h0 bb kb .byte nn vs dd) (hz0 : ¬ en < 0) (hc : en.toNatClampNeg ≤ 8) (hm : own_min32 nn en = en) (hl : en.toNatClampNeg ≤ nn.toNatClampNeg) (hne : ¬ en = nn) :
    MetFree l (⟨"java/util/Arrays", "copyOfRange", "([BII)[B"⟩ : MethodName) (head1 (Jvm.Cond.code (⟨"java/util/Arrays", "copyOfRange", "([BII)[B"⟩ : MethodName) jdk_65_method_132_code 3 (some (.array .byte)) :: ws) ({ frames := 2, cells := 1, slots := 8, locals := 34 } : Room)) (fun a U => a = #[(.ref bb), (.int (0 : Int32)), (.int en)] ∧ Z.Warmed39 U.vm ∧ U.heap = h0) (fun _ _ _ _ _ => True) (fun _ U o U' => ∃ v L, o = .returned v ∧ Q_rm_cr Z bb kb nn vs dd en h0 n0 v U'.heap L ∧ FrameEnd U o U' L ({ frames := 2, cells := 1, slots := 8, locals := 34 } : Room).cells ({ frames := 2, cells := 1, slots := 8, locals := 34 } : Room).slots) := by
 refine MetFree.of_bodySF (plainFor_of_name pn_java_util_Arrays) hisR ?_
 intro p e s m args below meth c s₁ Bd hml0 hP hK
 obtain ⟨rfl, hZ, hh⟩ := hP
 have hx := Bd.exec
 have hby := Bd.bytes
 have hml : c.maxLocals = 3 := hml0
 have hown : s.vm.findClass "java/util/Arrays" = some m.cls := findClass_of_methodNamed Bd.named
 have hnm := (name_of_methodNamed Bd.named Bd.method).1
 have X0 : Stand p l e ({ frames := 2, cells := 1, slots := 8, locals := 34 } : Room) s m #[(.ref bb), (.int (0 : Int32)), (.int en)] below meth c s₁ [] 0 0 := Stand.of_body Bd
 have e0 : s₁.heap = h0 := by rw [← hh, Bd.state]; rfl
 have N0 := Fr.nil n0
 have K00 : Keep h0 h0 [] := Keep.refl _ _
 show Rch p e below s₁ (entryFrame m #[(.ref bb), (.int (0 : Int32)), (.int en)] 3) (FinP s (Q_rm_cr Z bb kb nn vs dd en h0 n0) 1 8)
 refine Rch.cast (ef_rm_cr m bb kb nn vs dd en) ?_
 show Rch p e below s₁ (mkF m 0 #[.val (.ref bb), .val (.int 0), .val (.int en)] []) _
 refine w_iloadN (pc' := 1) X0 hx hby djdk65m132_0 rfl rfl ?_
 refine w_ifNo (pc' := 4) X0 hx hby djdk65m132_1 (XT.i0_ne_f (by decide)) rfl ?_
 refine w_iloadN (pc' := 5) X0 hx hby djdk65m132_4 rfl rfl ?_
 refine w_aloadN (pc' := 6) X0 hx hby djdk65m132_5 rfl rfl rfl ?_
 refine Rch.st (fun _ k => own_alen X0 hx hZ e0 f0 rfl rfl (hb hby djdk65m132_6) k) ?_
 show Rch p e below s₁ (mkF m 7 #[.val (.ref bb), .val (.int 0), .val (.int en)] [(.int nn), (.int en)]) _
 refine w_icmpNo (pc' := 10) X0 hx hby djdk65m132_7 (XT.ii_eq_f (hne)) rfl ?_
 refine w_aloadN (pc' := 11) X0 hx hby djdk65m132_10 rfl rfl rfl ?_
 refine w_iloadN (pc' := 12) X0 hx hby djdk65m132_11 rfl rfl ?_
 refine w_iloadN (pc' := 13) X0 hx hby djdk65m132_12 rfl rfl ?_
 obtain ⟨_, _, ⟨T40, L40, k40, n40⟩, -, X40, ⟨Lc40, hQ40, l40, y40, z40⟩, st40⟩ := Jvm.LawKit.callS X0 hx (y := (⟨"java/util/Arrays", "copyOfRangeByte", "([BII)[B"⟩ : MethodName)) hown (mvT hZ (wi hw 104 rfl)) (mvT hZ (wi hw 105 rfl)) (mvT hZ (wi hw 102 rfl)) (mvT hZ (wi hw 106 rfl)) (by decide) (backOf (W := 0) (rm_crb l Z a0 hw [] bb kb nn vs dd en h0 n0 Z0 f0 (hz0) (hc) (hm) (hl)) hZ (wi hw 106 rfl) (wi hw 102 rfl) (by decide) (by decide)) (g := (mkF m 13 #[.val (.ref bb), .val (.int 0), .val (.int en)] [(.int en), (.int 0), (.ref bb)])) rfl (by rw [hml]; rfl) (argsL := [(.ref bb), (.int 0), (.int en)]) (rest := []) (lenOf pd___BII__B rfl) rfl (by show 2 * 0 + _ ≤ _; exact Nat.le_of_eq rfl) (hb hby djdk65m132_13) (fun _ _ => ⟨rfl, e0, (by decide : 0 + 1 ≤ _), (by decide : 0 + 8 ≤ _)⟩)
 dsimp only [Pt.U, Pt.locs, Pt.cells, Pt.slots] at X40 l40 y40 z40 st40 hQ40
 subst l40 y40 z40
 obtain ⟨t_40, kt_40, rfl, NQ40, K40, pq40_0, fq40_0⟩ := hQ40
 have N41 := Fr.app N0 NQ40
 have Kp45 : Keep h0 T40.heap [] := K00.trans K40 all0
 refine Rch.st (fun _ k => st40 _ k) ?_
 show Rch p e below T40 (mkF m 16 #[.val (.ref bb), .val (.int 0), .val (.int en)] [(.ref t_40)]) _
 exact Rch.retV X40 hx Bd.returns rfl (Or.inr (Or.inr (Or.inr (Or.inr ⟨rfl, rfl, rfl⟩)))) (hb hby djdk65m132_16) (by rw [(rfl : T40.heap = T40.heap)]; exact ⟨t_40, kt_40, rfl, N41, Kp45, (Nat.le_trans K00.1 pq40_0), fq40_0⟩) (by decide) (by decide)

theorem djdk42m151_0 : decode jdk_42_method_151_code 0 = .ok (.aload_n 0, 1) := by decide +kernel
theorem djdk42m151_1 : decode jdk_42_method_151_code 1 = .ok (.invokespecial 1, 3) := by decide +kernel
theorem djdk42m151_4 : decode jdk_42_method_151_code 4 = .ok (.aload_n 0, 1) := by decide +kernel
theorem djdk42m151_5 : decode jdk_42_method_151_code 5 = .ok (.aload_n 1, 1) := by decide +kernel
theorem djdk42m151_6 : decode jdk_42_method_151_code 6 = .ok (.putfield 9, 3) := by decide +kernel
theorem djdk42m151_9 : decode jdk_42_method_151_code 9 = .ok (.aload_n 0, 1) := by decide +kernel
theorem djdk42m151_10 : decode jdk_42_method_151_code 10 = .ok (.iload_n 2, 1) := by decide +kernel
theorem djdk42m151_11 : decode jdk_42_method_151_code 11 = .ok (.putfield 15, 3) := by decide +kernel
theorem djdk42m151_14 : decode jdk_42_method_151_code 14 = .ok (.return_, 1) := by decide +kernel
theorem ef_rm_BB (m : MethodId) (a5 : Addr) (bb : Addr)  : entryFrame m #[(.ref a5), (.ref bb), (.int (0 : Int32))] 3 = mkF m 0 #[.val (.ref a5), .val (.ref bb), .val (.int (0 : Int32))] [] := by  first | (simp [entryFrame, mkF, argsToLocals, Value.category, maxLocals]; done) | rfl
def Q_rm_BB (Z : State) (a5 : Addr) (bb : Addr) (h0 : Heap) (n0 : Nat) (v : Option Value) (h : Heap) (L : List Loc) : Prop := (v = none) ∧ (Fr n0 L) ∧ (Keep h0 h [a5]) ∧ (Fld Z h a5 "java/lang/String" "coder" "B" (.int (0 : Int32))) ∧ (Fld Z h a5 "java/lang/String" "value" "[B" (.ref bb))
set_option maxRecDepth 65536 in
set_option maxHeartbeats 40000000 in
theorem rm_BB (l : Launch) (Z : State) (a0 : Array Value) (hw : ∀ d ∈ tables_1, d.before a0 Z = true) (ws : List Jvm.Cond) (a5 : Addr) (bb : Addr) (h0 : Heap) (n0 : Nat) (Z0 : n0 ≤ h0.size) (f0 : Exa Z h0 a5 "java/lang/String") (f1 : Fld Z h0 a5 "java/lang/String" "coder" "B" (.int (0 : Int32))) (f2 : Fld Z h0 a5 "java/lang/String" "value" "[B" .null) (ga : n0 ≤ a5) :
    MetFree l (⟨"java/lang/String", "<init>", "([BB)V"⟩ : MethodName) (head1 (Jvm.Cond.code (⟨"java/lang/String", "<init>", "([BB)V"⟩ : MethodName) jdk_42_method_151_code 3 none :: ws) ({ frames := 1, cells := 0, slots := 0, locals := 12 } : Room)) (fun a U => a = #[(.ref a5), (.ref bb), (.int (0 : Int32))] ∧ Z.Warmed39 U.vm ∧ U.heap = h0) (fun _ _ _ _ _ => True) (fun _ U o U' => ∃ v L, o = .returned v ∧ Q_rm_BB Z a5 bb h0 n0 v U'.heap L ∧ FrameEnd U o U' L ({ frames := 1, cells := 0, slots := 0, locals := 12 } : Room).cells ({ frames := 1, cells := 0, slots := 0, locals := 12 } : Room).slots) := by
 refine MetFree.of_bodySF (plainFor_of_name pn_java_lang_String) hisR ?_
 intro p e s m args below meth c s₁ Bd hml0 hP hK
 obtain ⟨rfl, hZ, hh⟩ := hP
 have hx := Bd.exec
 have hby := Bd.bytes
 have hml : c.maxLocals = 3 := hml0
 have hown : s.vm.findClass "java/lang/String" = some m.cls := findClass_of_methodNamed Bd.named
 have hnm := (name_of_methodNamed Bd.named Bd.method).1
 have X0 : Stand p l e ({ frames := 1, cells := 0, slots := 0, locals := 12 } : Room) s m #[(.ref a5), (.ref bb), (.int (0 : Int32))] below meth c s₁ [] 0 0 := Stand.of_body Bd
 have e0 : s₁.heap = h0 := by rw [← hh, Bd.state]; rfl
 have N0 := Fr.nil n0
 have K00 : Keep h0 h0 [a5] := Keep.refl _ _
 show Rch p e below s₁ (entryFrame m #[(.ref a5), (.ref bb), (.int (0 : Int32))] 3) (FinP s (Q_rm_BB Z a5 bb h0 n0) 0 0)
 refine Rch.cast (ef_rm_BB m a5 bb) ?_
 show Rch p e below s₁ (mkF m 0 #[.val (.ref a5), .val (.ref bb), .val (.int 0)] []) _
 refine w_aloadN (pc' := 1) X0 hx hby djdk42m151_0 rfl rfl rfl ?_
 obtain ⟨T47, X47, e47, st47⟩ := initO X0 hx hZ hown (wi hw 70 rfl) (wi hw 71 rfl) (wi hw 72 rfl) e0 (g := (mkF m 1 #[.val (.ref a5), .val (.ref bb), .val (.int 0)] [(.ref a5)])) rfl (by rw [hml]; rfl) rfl (hb hby djdk42m151_1) (by decide) (W := 0) (by show 2 * 0 + _ ≤ _; exact Nat.le_of_eq rfl) (by decide)
 refine Rch.st (fun _ k => st47 _ k) ?_
 show Rch p e below T47 (mkF m 4 #[.val (.ref a5), .val (.ref bb), .val (.int 0)] []) _
 refine w_aloadN (pc' := 5) X47 hx hby djdk42m151_4 rfl rfl rfl ?_
 refine w_aloadN (pc' := 6) X47 hx hby djdk42m151_5 rfl rfl rfl ?_
 obtain ⟨T48, h48, X48, e48, W48, st48⟩ := putF X47 hx hZ hown (host := "") (Or.inl (wi hw 30 rfl)) Via.refl e47 f2 f0 (Or.inr ⟨(wi hw 12 rfl), rfl, hnm⟩) (wi hw 10 rfl) (ty := (.array .byte)) (by decide) rfl rfl (g := (mkF m 6 #[.val (.ref a5), .val (.ref bb), .val (.int 0)] [(.ref bb), (.ref a5)])) rfl rfl (hb hby djdk42m151_6)
 have N49 := Fr.snoc X48 N0 ga
 have f50 := f0.wr W48
 have f51 := f1.other W48 (Or.inr (slot_ne (t := .byte) (t' := (.array .byte)) (Or.inr (wi hw 13 rfl)) (Or.inr (wi hw 12 rfl)) (by decide) (by decide) (by decide)))
 have f52 := f2.same W48
 have Kp54 : Keep h0 h48 [a5] := K00.wr W48 (Or.inl (List.mem_of_getElem? (i := 0) rfl))
 refine Rch.st (fun _ k => st48 _ k) ?_
 show Rch p e below T48 (mkF m 9 #[.val (.ref a5), .val (.ref bb), .val (.int 0)] []) _
 refine w_aloadN (pc' := 10) X48 hx hby djdk42m151_9 rfl rfl rfl ?_
 refine w_iloadN (pc' := 11) X48 hx hby djdk42m151_10 rfl rfl ?_
 obtain ⟨T55, h55, X55, e55, W55, st55⟩ := putF X48 hx hZ hown (host := "") (Or.inl (wi hw 37 rfl)) Via.refl e48 f51 f50 (Or.inr ⟨(wi hw 13 rfl), rfl, hnm⟩) (wi hw 10 rfl) (ty := .byte) (by decide) rfl rfl (g := (mkF m 11 #[.val (.ref a5), .val (.ref bb), .val (.int 0)] [(.int 0), (.ref a5)])) rfl rfl (hb hby djdk42m151_11)
 have N56 := Fr.snoc X55 N49 ga
 have f58 := f51.same W55
 have f59 := f52.other W55 (Or.inr (slot_ne (t := (.array .byte)) (t' := .byte) (Or.inr (wi hw 12 rfl)) (Or.inr (wi hw 13 rfl)) (by decide) (by decide) (by decide)))
 have Kp61 : Keep h0 h55 [a5] := Kp54.wr W55 (Or.inl (List.mem_of_getElem? (i := 0) rfl))
 refine Rch.st (fun _ k => st55 _ k) ?_
 show Rch p e below T55 (mkF m 14 #[.val (.ref a5), .val (.ref bb), .val (.int 0)] []) _
 exact Rch.ret0 X55 hx Bd.returns (hb hby djdk42m151_14) (by rw [e55]; exact ⟨rfl, N56, Kp61, f58, f59⟩) (by decide) (by decide)

theorem djdk52m21_0 : decode jdk_52_method_21_code 0 = .ok (.iconst 0, 1) := by decide +kernel
theorem djdk52m21_1 : decode jdk_52_method_21_code 1 = .ok (.istore 5, 2) := by decide +kernel
theorem djdk52m21_3 : decode jdk_52_method_21_code 3 = .ok (.iload 5, 2) := by decide +kernel
theorem djdk52m21_5 : decode jdk_52_method_21_code 5 = .ok (.iload 4, 2) := by decide +kernel
theorem djdk52m21_7 : decode jdk_52_method_21_code 7 = .ok (.if_icmp .ge 37, 3) := by decide +kernel
theorem djdk52m21_10 : decode jdk_52_method_21_code 10 = .ok (.aload_n 0, 1) := by decide +kernel
theorem djdk52m21_11 : decode jdk_52_method_21_code 11 = .ok (.iload_n 1, 1) := by decide +kernel
theorem djdk52m21_12 : decode jdk_52_method_21_code 12 = .ok (.caload, 1) := by decide +kernel
theorem djdk52m21_13 : decode jdk_52_method_21_code 13 = .ok (.istore 6, 2) := by decide +kernel
theorem djdk52m21_15 : decode jdk_52_method_21_code 15 = .ok (.iload 6, 2) := by decide +kernel
theorem djdk52m21_17 : decode jdk_52_method_21_code 17 = .ok (.sipush 255, 3) := by decide +kernel
theorem djdk52m21_20 : decode jdk_52_method_21_code 20 = .ok (.if_icmp .le 6, 3) := by decide +kernel
theorem djdk52m21_26 : decode jdk_52_method_21_code 26 = .ok (.aload_n 2, 1) := by decide +kernel
theorem djdk52m21_27 : decode jdk_52_method_21_code 27 = .ok (.iload_n 3, 1) := by decide +kernel
theorem djdk52m21_28 : decode jdk_52_method_21_code 28 = .ok (.iload 6, 2) := by decide +kernel
theorem djdk52m21_30 : decode jdk_52_method_21_code 30 = .ok (.i2b, 1) := by decide +kernel
theorem djdk52m21_31 : decode jdk_52_method_21_code 31 = .ok (.bastore, 1) := by decide +kernel
theorem djdk52m21_32 : decode jdk_52_method_21_code 32 = .ok (.iinc 1 1, 3) := by decide +kernel
theorem djdk52m21_35 : decode jdk_52_method_21_code 35 = .ok (.iinc 3 1, 3) := by decide +kernel
theorem djdk52m21_38 : decode jdk_52_method_21_code 38 = .ok (.iinc 5 1, 3) := by decide +kernel
theorem djdk52m21_41 : decode jdk_52_method_21_code 41 = .ok (.goto (-38), 3) := by decide +kernel
theorem djdk52m21_44 : decode jdk_52_method_21_code 44 = .ok (.iload 4, 2) := by decide +kernel
theorem djdk52m21_46 : decode jdk_52_method_21_code 46 = .ok (.ireturn, 1) := by decide +kernel
theorem ef_rm_cmp5_1 (m : MethodId) (ca : Addr) (kc : ClassId) (bd : Addr) (kd : ClassId) (cc0 : Int32)  : entryFrame m #[(.ref ca), (.int (0 : Int32)), (.ref bd), (.int (0 : Int32)), (.int (1 : Int32))] 7 = mkF m 0 #[.val (.ref ca), .val (.int (0 : Int32)), .val (.ref bd), .val (.int (0 : Int32)), .val (.int (1 : Int32)), .unset, .unset] [] := by  first | (simp [entryFrame, mkF, argsToLocals, Value.category, maxLocals]; done) | rfl
def Q_rm_cmp5_1 (Z : State) (ca : Addr) (kc : ClassId) (bd : Addr) (kd : ClassId) (cc0 : Int32) (h0 : Heap) (n0 : Nat) (v : Option Value) (h : Heap) (L : List Loc) : Prop := (v = some (.int (1 : Int32))) ∧ (Fr n0 L) ∧ (Keep h0 h [bd]) ∧ (Arv Z h bd kd .byte (1 : Int32) [(.int (own_by cc0))] (.int (0 : Int32)))
set_option maxRecDepth 65536 in
set_option maxHeartbeats 40000000 in
theorem rm_cmp5_1 (l : Launch) (Z : State) (a0 : Array Value) (hw : ∀ d ∈ tables_1, d.before a0 Z = true) (ws : List Jvm.Cond) (ca : Addr) (kc : ClassId) (bd : Addr) (kd : ClassId) (cc0 : Int32) (h0 : Heap) (n0 : Nat) (Z0 : n0 ≤ h0.size) (f0 : Arv Z h0 ca kc .char (1 : Int32) [(.int cc0)] (.int (0 : Int32))) (f1 : Arv Z h0 bd kd .byte (1 : Int32) [(.int (0 : Int32))] (.int (0 : Int32))) (gd : n0 ≤ bd) (ncd : ca ≠ bd) (hg0 : ¬ (255 : Int32) < cc0) :
    MetFree l (⟨"java/lang/StringUTF16", "compress", "([CI[BII)I"⟩ : MethodName) (head1 (Jvm.Cond.code (⟨"java/lang/StringUTF16", "compress", "([CI[BII)I"⟩ : MethodName) jdk_52_method_21_code 7 (some .int) :: ws) ({ frames := 0, cells := 0, slots := 0, locals := 0 } : Room)) (fun a U => a = #[(.ref ca), (.int (0 : Int32)), (.ref bd), (.int (0 : Int32)), (.int (1 : Int32))] ∧ Z.Warmed39 U.vm ∧ U.heap = h0) (fun _ _ _ _ _ => True) (fun _ U o U' => ∃ v L, o = .returned v ∧ Q_rm_cmp5_1 Z ca kc bd kd cc0 h0 n0 v U'.heap L ∧ FrameEnd U o U' L ({ frames := 0, cells := 0, slots := 0, locals := 0 } : Room).cells ({ frames := 0, cells := 0, slots := 0, locals := 0 } : Room).slots) := by
 refine MetFree.of_bodySF (plainFor_of_name pn_java_lang_StringUTF16) hisR ?_
 intro p e s m args below meth c s₁ Bd hml0 hP hK
 obtain ⟨rfl, hZ, hh⟩ := hP
 have hx := Bd.exec
 have hby := Bd.bytes
 have hml : c.maxLocals = 7 := hml0
 have hown : s.vm.findClass "java/lang/StringUTF16" = some m.cls := findClass_of_methodNamed Bd.named
 have hnm := (name_of_methodNamed Bd.named Bd.method).1
 have X0 : Stand p l e ({ frames := 0, cells := 0, slots := 0, locals := 0 } : Room) s m #[(.ref ca), (.int (0 : Int32)), (.ref bd), (.int (0 : Int32)), (.int (1 : Int32))] below meth c s₁ [] 0 0 := Stand.of_body Bd
 have e0 : s₁.heap = h0 := by rw [← hh, Bd.state]; rfl
 have N0 := Fr.nil n0
 have K00 : Keep h0 h0 [bd] := Keep.refl _ _
 show Rch p e below s₁ (entryFrame m #[(.ref ca), (.int (0 : Int32)), (.ref bd), (.int (0 : Int32)), (.int (1 : Int32))] 7) (FinP s (Q_rm_cmp5_1 Z ca kc bd kd cc0 h0 n0) 0 0)
 refine Rch.cast (ef_rm_cmp5_1 m ca kc bd kd cc0) ?_
 show Rch p e below s₁ (mkF m 0 #[.val (.ref ca), .val (.int 0), .val (.ref bd), .val (.int 0), .val (.int 1), .unset, .unset] []) _
 refine w_iconst (pc' := 1) (v := 0) X0 hx hby djdk52m21_0 rfl rfl ?_
 refine w_istore (pc' := 3) (l' := #[.val (.ref ca), .val (.int 0), .val (.ref bd), .val (.int 0), .val (.int 1), .val (.int 0), .unset]) X0 hx hby djdk52m21_1 rfl rfl ?_
 refine w_iload (pc' := 5) X0 hx hby djdk52m21_3 rfl rfl ?_
 refine w_iload (pc' := 7) X0 hx hby djdk52m21_5 rfl rfl ?_
 refine w_icmpNo (pc' := 10) X0 hx hby djdk52m21_7 (XT.ii_ge_f (by decide)) rfl ?_
 refine w_aloadN (pc' := 11) X0 hx hby djdk52m21_10 rfl rfl rfl ?_
 refine w_iloadN (pc' := 12) X0 hx hby djdk52m21_11 rfl rfl ?_
 refine Rch.st (fun _ k => own_ldC X0 hx hZ e0 f0 (j := (0 : Int32)) ⟨by decide, by decide⟩ (by rfl) rfl rfl (hb hby djdk52m21_12) k) ?_
 show Rch p e below s₁ (mkF m 13 #[.val (.ref ca), .val (.int 0), .val (.ref bd), .val (.int 0), .val (.int 1), .val (.int 0), .unset] [(.int cc0)]) _
 refine w_istore (pc' := 15) (l' := #[.val (.ref ca), .val (.int 0), .val (.ref bd), .val (.int 0), .val (.int 1), .val (.int 0), .val (.int cc0)]) X0 hx hby djdk52m21_13 rfl rfl ?_
 refine w_iload (pc' := 17) X0 hx hby djdk52m21_15 rfl rfl ?_
 refine w_sipush (pc' := 20) (v := 255) X0 hx hby djdk52m21_17 rfl rfl ?_
 refine w_icmpYes (pc' := 26) X0 hx hby djdk52m21_20 (XT.ii_le_t (hg0)) (by decide) ?_
 refine w_aloadN (pc' := 27) X0 hx hby djdk52m21_26 rfl rfl rfl ?_
 refine w_iloadN (pc' := 28) X0 hx hby djdk52m21_27 rfl rfl ?_
 refine w_iload (pc' := 30) X0 hx hby djdk52m21_28 rfl rfl ?_
 refine w_i2b (pc' := 31) X0 hx hby djdk52m21_30 rfl ?_
 obtain ⟨T62, h62, X62, e62, W62, V62, st62⟩ := own_stB X0 hx hZ e0 f1 (j := (0 : Int32)) ⟨by decide, by decide⟩ 0 (by decide) (by decide : 0 < 1) (g := (mkF m 31 #[.val (.ref ca), .val (.int 0), .val (.ref bd), .val (.int 0), .val (.int 1), .val (.int 0), .val (.int cc0)] [(.int (cc0).toInt8.toInt32), (.int 0), (.ref bd)])) rfl rfl (hb hby djdk52m21_31)
 have N63 := Fr.snoc X62 N0 gd
 have Kp66 : Keep h0 h62 [bd] := K00.wr W62 (Or.inl (List.mem_of_getElem? (i := 0) rfl))
 have f67 : Arv Z h62 bd kd .byte (1 : Int32) [(.int ((cc0).toInt8.toInt32).toInt8.toInt32)] (.int (0 : Int32)) := V62
 refine Rch.st (fun _ k => st62 _ k) ?_
 show Rch p e below T62 (mkF m 32 #[.val (.ref ca), .val (.int 0), .val (.ref bd), .val (.int 0), .val (.int 1), .val (.int 0), .val (.int cc0)] []) _
 refine w_iinc (pc' := 35) (w := (1 : Int32)) (l' := #[.val (.ref ca), .val (.int (1 : Int32)), .val (.ref bd), .val (.int (0 : Int32)), .val (.int (1 : Int32)), .val (.int (0 : Int32)), .val (.int cc0)]) X62 hx hby djdk52m21_32 rfl (by decide) rfl rfl ?_
 refine w_iinc (pc' := 38) (w := (1 : Int32)) (l' := #[.val (.ref ca), .val (.int (1 : Int32)), .val (.ref bd), .val (.int (1 : Int32)), .val (.int (1 : Int32)), .val (.int (0 : Int32)), .val (.int cc0)]) X62 hx hby djdk52m21_35 rfl (by decide) rfl rfl ?_
 refine w_iinc (pc' := 41) (w := (1 : Int32)) (l' := #[.val (.ref ca), .val (.int (1 : Int32)), .val (.ref bd), .val (.int (1 : Int32)), .val (.int (1 : Int32)), .val (.int (1 : Int32)), .val (.int cc0)]) X62 hx hby djdk52m21_38 rfl (by decide) rfl rfl ?_
 refine w_goto (pc' := 3) X62 hx hby djdk52m21_41 (by decide) ?_
 refine w_iload (pc' := 5) X62 hx hby djdk52m21_3 rfl rfl ?_
 refine w_iload (pc' := 7) X62 hx hby djdk52m21_5 rfl rfl ?_
 refine w_icmpYes (pc' := 44) X62 hx hby djdk52m21_7 (XT.ii_ge_t (by decide)) (by decide) ?_
 refine w_iload (pc' := 46) X62 hx hby djdk52m21_44 rfl rfl ?_
 exact Rch.retV X62 hx Bd.returns rfl (Or.inl ⟨rfl, by simp, _, rfl⟩) (hb hby djdk52m21_46) (by rw [e62]; exact ⟨rfl, N63, Kp66, f67⟩) (by decide) (by decide)

theorem djdk52m16_0 : decode jdk_52_method_16_code 0 = .ok (.iload_n 2, 1) := by decide +kernel
theorem djdk52m16_1 : decode jdk_52_method_16_code 1 = .ok (.newarray .byte, 2) := by decide +kernel
theorem djdk52m16_3 : decode jdk_52_method_16_code 3 = .ok (.astore_n 3, 1) := by decide +kernel
theorem djdk52m16_4 : decode jdk_52_method_16_code 4 = .ok (.aload_n 0, 1) := by decide +kernel
theorem djdk52m16_5 : decode jdk_52_method_16_code 5 = .ok (.iload_n 1, 1) := by decide +kernel
theorem djdk52m16_6 : decode jdk_52_method_16_code 6 = .ok (.aload_n 3, 1) := by decide +kernel
theorem djdk52m16_7 : decode jdk_52_method_16_code 7 = .ok (.iconst 0, 1) := by decide +kernel
theorem djdk52m16_8 : decode jdk_52_method_16_code 8 = .ok (.iload_n 2, 1) := by decide +kernel
theorem djdk52m16_9 : decode jdk_52_method_16_code 9 = .ok (.invokestatic 115, 3) := by decide +kernel
theorem djdk52m16_12 : decode jdk_52_method_16_code 12 = .ok (.istore 4, 2) := by decide +kernel
theorem djdk52m16_14 : decode jdk_52_method_16_code 14 = .ok (.iload 4, 2) := by decide +kernel
theorem djdk52m16_16 : decode jdk_52_method_16_code 16 = .ok (.iload_n 2, 1) := by decide +kernel
theorem djdk52m16_17 : decode jdk_52_method_16_code 17 = .ok (.if_icmp .eq 40, 3) := by decide +kernel
theorem djdk52m16_57 : decode jdk_52_method_16_code 57 = .ok (.aload_n 3, 1) := by decide +kernel
theorem djdk52m16_58 : decode jdk_52_method_16_code 58 = .ok (.areturn, 1) := by decide +kernel
theorem ef_rm_cmp3_1 (m : MethodId) (ca : Addr) (kc : ClassId) (cc0 : Int32)  : entryFrame m #[(.ref ca), (.int (0 : Int32)), (.int (1 : Int32))] 6 = mkF m 0 #[.val (.ref ca), .val (.int (0 : Int32)), .val (.int (1 : Int32)), .unset, .unset, .unset] [] := by  first | (simp [entryFrame, mkF, argsToLocals, Value.category, maxLocals]; done) | rfl
def Q_rm_cmp3_1 (Z : State) (ca : Addr) (kc : ClassId) (cc0 : Int32) (h0 : Heap) (n0 : Nat) (v : Option Value) (h : Heap) (L : List Loc) : Prop := ∃ (t : Addr) (kt : ClassId), (v = some (.ref t)) ∧ (Fr n0 L) ∧ (Keep h0 h []) ∧ (h0.size ≤ t) ∧ (Arv Z h t kt .byte (1 : Int32) [(.int (own_by cc0))] (.int (0 : Int32)))
theorem pd___CI_BII_I : parseMethodDescriptor "([CI[BII)I" = some ⟨[(.array .char), .int, (.array .byte), .int, .int], (some .int)⟩ := by decide +kernel
set_option maxRecDepth 65536 in
set_option maxHeartbeats 40000000 in
theorem rm_cmp3_1 (l : Launch) (Z : State) (a0 : Array Value) (hw : ∀ d ∈ tables_1, d.before a0 Z = true) (ws : List Jvm.Cond) (ca : Addr) (kc : ClassId) (cc0 : Int32) (h0 : Heap) (n0 : Nat) (Z0 : n0 ≤ h0.size) (f0 : Arv Z h0 ca kc .char (1 : Int32) [(.int cc0)] (.int (0 : Int32))) (hg0 : ¬ (255 : Int32) < cc0) :
    MetFree l (⟨"java/lang/StringUTF16", "compress", "([CII)[B"⟩ : MethodName) (head1 (Jvm.Cond.code (⟨"java/lang/StringUTF16", "compress", "([CII)[B"⟩ : MethodName) jdk_52_method_16_code 6 (some (.array .byte)) :: ws) ({ frames := 1, cells := 1, slots := 1, locals := 18 } : Room)) (fun a U => a = #[(.ref ca), (.int (0 : Int32)), (.int (1 : Int32))] ∧ Z.Warmed39 U.vm ∧ U.heap = h0) (fun _ _ _ _ _ => True) (fun _ U o U' => ∃ v L, o = .returned v ∧ Q_rm_cmp3_1 Z ca kc cc0 h0 n0 v U'.heap L ∧ FrameEnd U o U' L ({ frames := 1, cells := 1, slots := 1, locals := 18 } : Room).cells ({ frames := 1, cells := 1, slots := 1, locals := 18 } : Room).slots) := by
 refine MetFree.of_bodySF (plainFor_of_name pn_java_lang_StringUTF16) hisR ?_
 intro p e s m args below meth c s₁ Bd hml0 hP hK
 obtain ⟨rfl, hZ, hh⟩ := hP
 have hx := Bd.exec
 have hby := Bd.bytes
 have hml : c.maxLocals = 6 := hml0
 have hown : s.vm.findClass "java/lang/StringUTF16" = some m.cls := findClass_of_methodNamed Bd.named
 have hnm := (name_of_methodNamed Bd.named Bd.method).1
 have X0 : Stand p l e ({ frames := 1, cells := 1, slots := 1, locals := 18 } : Room) s m #[(.ref ca), (.int (0 : Int32)), (.int (1 : Int32))] below meth c s₁ [] 0 0 := Stand.of_body Bd
 have e0 : s₁.heap = h0 := by rw [← hh, Bd.state]; rfl
 have N0 := Fr.nil n0
 have K00 : Keep h0 h0 [] := Keep.refl _ _
 show Rch p e below s₁ (entryFrame m #[(.ref ca), (.int (0 : Int32)), (.int (1 : Int32))] 6) (FinP s (Q_rm_cmp3_1 Z ca kc cc0 h0 n0) 1 1)
 refine Rch.cast (ef_rm_cmp3_1 m ca kc cc0) ?_
 show Rch p e below s₁ (mkF m 0 #[.val (.ref ca), .val (.int 0), .val (.int 1), .unset, .unset, .unset] []) _
 refine w_iloadN (pc' := 1) X0 hx hby djdk52m16_0 rfl rfl ?_
 obtain ⟨T68, h68, kc68, X68, e68, E68, A68, st68⟩ := newP X0 hx hZ (wi hw 11 rfl) e0 (g := (mkF m 1 #[.val (.ref ca), .val (.int 0), .val (.int 1), .unset, .unset, .unset] [(.int 1)])) rfl (hb hby djdk52m16_1) rfl (by decide : ¬ ((1 : Int32) < (0 : Int32))) (cap := 1) (by decide : (1 : Int32).toNatClampNeg ≤ 1) (by decide) (by decide) (by decide)
 obtain ⟨a68, g68⟩ : ∃ z, z = h0.size := ⟨_, rfl⟩
 rw [← g68] at A68 st68
 have ne69 : ca ≠ a68 := by rw [g68]; exact Nat.ne_of_lt f0.lt
 have ge70 : n0 ≤ a68 := Nat.le_trans Z0 (Nat.le_of_eq g68.symm)
 have f72 := f0.ext E68
 have Z73 := Nat.le_trans Z0 E68.1
 have Kp74 : Keep h0 h68 [] := K00.ext E68
 have f75 : Arv Z h68 a68 kc68 .byte (1 : Int32) [(.int (0 : Int32))] (.int (0 : Int32)) := (Arv.new A68 (by decide : ¬ ((1 : Int32) < (0 : Int32)))).pad (pad_rep [] (.int (0 : Int32)) 1)
 refine Rch.st (fun _ k => st68 _ k) ?_
 show Rch p e below T68 (mkF m 3 #[.val (.ref ca), .val (.int 0), .val (.int 1), .unset, .unset, .unset] [(.ref a68)]) _
 refine w_astoreN (pc' := 4) (l' := #[.val (.ref ca), .val (.int 0), .val (.int 1), .val (.ref a68), .unset, .unset]) X68 hx hby djdk52m16_3 rfl rfl rfl ?_
 refine w_aloadN (pc' := 5) X68 hx hby djdk52m16_4 rfl rfl rfl ?_
 refine w_iloadN (pc' := 6) X68 hx hby djdk52m16_5 rfl rfl ?_
 refine w_aloadN (pc' := 7) X68 hx hby djdk52m16_6 rfl rfl rfl ?_
 refine w_iconst (pc' := 8) (v := 0) X68 hx hby djdk52m16_7 rfl rfl ?_
 refine w_iloadN (pc' := 9) X68 hx hby djdk52m16_8 rfl rfl ?_
 obtain ⟨_, _, ⟨T76, L76, k76, n76⟩, -, X76, ⟨Lc76, hQ76, l76, y76, z76⟩, st76⟩ := Jvm.LawKit.callS X68 hx (y := (⟨"java/lang/StringUTF16", "compress", "([CI[BII)I"⟩ : MethodName)) hown (mvT hZ (wi hw 77 rfl)) (mvT hZ (wi hw 78 rfl)) (mvT hZ (wi hw 75 rfl)) (mvT hZ (wi hw 79 rfl)) (by decide) (backOf (W := 0) (rm_cmp5_1 l Z a0 hw [] ca kc a68 kc68 cc0 h68 n0 Z73 f72 f75 (ge70) (ne69) (hg0)) hZ (wi hw 79 rfl) (wi hw 75 rfl) (by decide) (by decide)) (g := (mkF m 9 #[.val (.ref ca), .val (.int 0), .val (.int 1), .val (.ref a68), .unset, .unset] [(.int 1), (.int 0), (.ref a68), (.int 0), (.ref ca)])) rfl (by rw [hml]; rfl) (argsL := [(.ref ca), (.int 0), (.ref a68), (.int 0), (.int 1)]) (rest := []) (lenOf pd___CI_BII_I rfl) rfl (by show 2 * 0 + _ ≤ _; exact Nat.le_of_eq rfl) (hb hby djdk52m16_9) (fun _ _ => ⟨rfl, e68, (by decide : 1 + 0 ≤ _), (by decide : 1 + 0 ≤ _)⟩)
 dsimp only [Pt.U, Pt.locs, Pt.cells, Pt.slots] at X76 l76 y76 z76 st76 hQ76
 subst l76 y76 z76
 obtain ⟨rfl, NQ76, K76, fq76_0⟩ := hQ76
 have N77 := Fr.app N0 NQ76
 have Kp79 : Keep h0 T76.heap [] := Kp74.trans K76 (allS (Or.inr (Nat.le_trans K00.1 (Nat.le_of_eq g68.symm))) all0)
 refine Rch.st (fun _ k => st76 _ k) ?_
 show Rch p e below T76 (mkF m 12 #[.val (.ref ca), .val (.int 0), .val (.int 1), .val (.ref a68), .unset, .unset] [(.int 1)]) _
 refine w_istore (pc' := 14) (l' := #[.val (.ref ca), .val (.int 0), .val (.int 1), .val (.ref a68), .val (.int 1), .unset]) X76 hx hby djdk52m16_12 rfl rfl ?_
 refine w_iload (pc' := 16) X76 hx hby djdk52m16_14 rfl rfl ?_
 refine w_iloadN (pc' := 17) X76 hx hby djdk52m16_16 rfl rfl ?_
 refine w_icmpYes (pc' := 57) X76 hx hby djdk52m16_17 (XT.ii_eq_t (rfl)) (by decide) ?_
 refine w_aloadN (pc' := 58) X76 hx hby djdk52m16_57 rfl rfl rfl ?_
 exact Rch.retV X76 hx Bd.returns rfl (Or.inr (Or.inr (Or.inr (Or.inr ⟨rfl, rfl, rfl⟩)))) (hb hby djdk52m16_58) (by rw [(rfl : T76.heap = T76.heap)]; exact ⟨a68, kc68, rfl, N77, Kp79, (Nat.le_trans K00.1 (Nat.le_of_eq g68.symm)), fq76_0⟩) (by decide) (by decide)

theorem djdk42m149_0 : decode jdk_42_method_149_code 0 = .ok (.aload_n 0, 1) := by decide +kernel
theorem djdk42m149_1 : decode jdk_42_method_149_code 1 = .ok (.invokespecial 1, 3) := by decide +kernel
theorem djdk42m149_4 : decode jdk_42_method_149_code 4 = .ok (.iload_n 3, 1) := by decide +kernel
theorem djdk42m149_5 : decode jdk_42_method_149_code 5 = .ok (.ifCond .ne 22, 3) := by decide +kernel
theorem djdk42m149_27 : decode jdk_42_method_149_code 27 = .ok (.getstatic 38, 3) := by decide +kernel
theorem djdk42m149_30 : decode jdk_42_method_149_code 30 = .ok (.ifCond .eq 28, 3) := by decide +kernel
theorem djdk42m149_33 : decode jdk_42_method_149_code 33 = .ok (.aload_n 1, 1) := by decide +kernel
theorem djdk42m149_34 : decode jdk_42_method_149_code 34 = .ok (.iload_n 2, 1) := by decide +kernel
theorem djdk42m149_35 : decode jdk_42_method_149_code 35 = .ok (.iload_n 3, 1) := by decide +kernel
theorem djdk42m149_36 : decode jdk_42_method_149_code 36 = .ok (.invokestatic 177, 3) := by decide +kernel
theorem djdk42m149_39 : decode jdk_42_method_149_code 39 = .ok (.astore 5, 2) := by decide +kernel
theorem djdk42m149_41 : decode jdk_42_method_149_code 41 = .ok (.aload_n 0, 1) := by decide +kernel
theorem djdk42m149_42 : decode jdk_42_method_149_code 42 = .ok (.aload 5, 2) := by decide +kernel
theorem djdk42m149_44 : decode jdk_42_method_149_code 44 = .ok (.iload_n 3, 1) := by decide +kernel
theorem djdk42m149_45 : decode jdk_42_method_149_code 45 = .ok (.invokestatic 47, 3) := by decide +kernel
theorem djdk42m149_48 : decode jdk_42_method_149_code 48 = .ok (.putfield 15, 3) := by decide +kernel
theorem djdk42m149_51 : decode jdk_42_method_149_code 51 = .ok (.aload_n 0, 1) := by decide +kernel
theorem djdk42m149_52 : decode jdk_42_method_149_code 52 = .ok (.aload 5, 2) := by decide +kernel
theorem djdk42m149_54 : decode jdk_42_method_149_code 54 = .ok (.putfield 9, 3) := by decide +kernel
theorem djdk42m149_57 : decode jdk_42_method_149_code 57 = .ok (.return_, 1) := by decide +kernel
theorem ef_rm_init4_1 (m : MethodId) (G1 : Int32) (a5 : Addr) (ca : Addr) (kc : ClassId) (cc0 : Int32)  : entryFrame m #[(.ref a5), (.ref ca), (.int (0 : Int32)), (.int (1 : Int32)), .null] 6 = mkF m 0 #[.val (.ref a5), .val (.ref ca), .val (.int (0 : Int32)), .val (.int (1 : Int32)), .val .null, .unset] [] := by  first | (simp [entryFrame, mkF, argsToLocals, Value.category, maxLocals]; done) | rfl
def Q_rm_init4_1 (Z : State) (G1 : Int32) (a5 : Addr) (ca : Addr) (kc : ClassId) (cc0 : Int32) (h0 : Heap) (n0 : Nat) (v : Option Value) (h : Heap) (L : List Loc) : Prop := ∃ (t : Addr) (kt : ClassId), (v = none) ∧ (Fr n0 L) ∧ (Keep h0 h [a5]) ∧ (h0.size ≤ t) ∧ (Fld Z h a5 "java/lang/String" "coder" "B" (.int (0 : Int32))) ∧ (Fld Z h a5 "java/lang/String" "value" "[B" (.ref t)) ∧ (Arv Z h t kt .byte (1 : Int32) [(.int (own_by cc0))] (.int (0 : Int32)))
theorem pd___CII__B : parseMethodDescriptor "([CII)[B" = some ⟨[(.array .char), .int, .int], (some (.array .byte))⟩ := by decide +kernel
theorem pd___BI_B : parseMethodDescriptor "([BI)B" = some ⟨[(.array .byte), .int], (some .byte)⟩ := by decide +kernel
set_option maxRecDepth 65536 in
set_option maxHeartbeats 40000000 in
theorem rm_init4_1 (l : Launch) (Z : State) (a0 : Array Value) (hw : ∀ d ∈ tables_1, d.before a0 Z = true) (ws : List Jvm.Cond) (G1 : Int32) (a5 : Addr) (ca : Addr) (kc : ClassId) (cc0 : Int32) (h0 : Heap) (n0 : Nat) (Z0 : n0 ≤ h0.size) (O2 : Sta Z Z.heap "java/lang/String" "COMPACT_STRINGS" "Z" (.int G1)) (P5 : ¬ G1 = 0) (f2 : Exa Z h0 a5 "java/lang/String") (f3 : Fld Z h0 a5 "java/lang/String" "coder" "B" (.int (0 : Int32))) (f4 : Fld Z h0 a5 "java/lang/String" "value" "[B" .null) (f5 : Arv Z h0 ca kc .char (1 : Int32) [(.int cc0)] (.int (0 : Int32))) (ga : n0 ≤ a5) (nca : a5 ≠ ca) (hg0 : ¬ (255 : Int32) < cc0) (Old0 : OldL Z n0 h0) :
    MetFree l (⟨"java/lang/String", "<init>", "([CIILjava/lang/Void;)V"⟩ : MethodName) (head1 (Jvm.Cond.code (⟨"java/lang/String", "<init>", "([CIILjava/lang/Void;)V"⟩ : MethodName) jdk_42_method_149_code 6 none :: ws) ({ frames := 2, cells := 1, slots := 1, locals := 35 } : Room)) (fun a U => a = #[(.ref a5), (.ref ca), (.int (0 : Int32)), (.int (1 : Int32)), .null] ∧ Z.Warmed39 U.vm ∧ U.heap = h0) (fun _ _ _ _ _ => True) (fun _ U o U' => ∃ v L, o = .returned v ∧ Q_rm_init4_1 Z G1 a5 ca kc cc0 h0 n0 v U'.heap L ∧ FrameEnd U o U' L ({ frames := 2, cells := 1, slots := 1, locals := 35 } : Room).cells ({ frames := 2, cells := 1, slots := 1, locals := 35 } : Room).slots) := by
 refine MetFree.of_bodySF (plainFor_of_name pn_java_lang_String) hisR ?_
 intro p e s m args below meth c s₁ Bd hml0 hP hK
 obtain ⟨rfl, hZ, hh⟩ := hP
 have hx := Bd.exec
 have hby := Bd.bytes
 have hml : c.maxLocals = 6 := hml0
 have hown : s.vm.findClass "java/lang/String" = some m.cls := findClass_of_methodNamed Bd.named
 have hnm := (name_of_methodNamed Bd.named Bd.method).1
 have X0 : Stand p l e ({ frames := 2, cells := 1, slots := 1, locals := 35 } : Room) s m #[(.ref a5), (.ref ca), (.int (0 : Int32)), (.int (1 : Int32)), .null] below meth c s₁ [] 0 0 := Stand.of_body Bd
 have e0 : s₁.heap = h0 := by rw [← hh, Bd.state]; rfl
 have N0 := Fr.nil n0
 have K00 : Keep h0 h0 [a5] := Keep.refl _ _
 show Rch p e below s₁ (entryFrame m #[(.ref a5), (.ref ca), (.int (0 : Int32)), (.int (1 : Int32)), .null] 6) (FinP s (Q_rm_init4_1 Z G1 a5 ca kc cc0 h0 n0) 1 1)
 refine Rch.cast (ef_rm_init4_1 m G1 a5 ca kc cc0) ?_
 show Rch p e below s₁ (mkF m 0 #[.val (.ref a5), .val (.ref ca), .val (.int 0), .val (.int 1), .val .null, .unset] []) _
 refine w_aloadN (pc' := 1) X0 hx hby djdk42m149_0 rfl rfl rfl ?_
 obtain ⟨T81, X81, e81, st81⟩ := initO X0 hx hZ hown (wi hw 70 rfl) (wi hw 71 rfl) (wi hw 72 rfl) e0 (g := (mkF m 1 #[.val (.ref a5), .val (.ref ca), .val (.int 0), .val (.int 1), .val .null, .unset] [(.ref a5)])) rfl (by rw [hml]; rfl) rfl (hb hby djdk42m149_1) (by decide) (W := 0) (by show 2 * 0 + _ ≤ _; exact Nat.le_of_eq rfl) (by decide)
 refine Rch.st (fun _ k => st81 _ k) ?_
 show Rch p e below T81 (mkF m 4 #[.val (.ref a5), .val (.ref ca), .val (.int 0), .val (.int 1), .val .null, .unset] []) _
 refine w_iloadN (pc' := 5) X81 hx hby djdk42m149_4 rfl rfl ?_
 refine w_ifYes (pc' := 27) X81 hx hby djdk42m149_5 (XT.i0_ne_t (by decide)) (by decide) ?_
 obtain ⟨T82, X82, e82, st82⟩ := getS X81 hx hZ hown (host := "") (wi hw 36 rfl) Via.refl e81 (O2.ext Old0.2) (g := (mkF m 27 #[.val (.ref a5), .val (.ref ca), .val (.int 0), .val (.int 1), .val .null, .unset] [])) rfl (hb hby djdk42m149_27)
 refine Rch.st (fun _ k => st82 _ k) ?_
 show Rch p e below T82 (mkF m 30 #[.val (.ref a5), .val (.ref ca), .val (.int 0), .val (.int 1), .val .null, .unset] [(.int G1)]) _
 refine w_ifNo (pc' := 33) X82 hx hby djdk42m149_30 (XT.i0_eq_f (P5)) rfl ?_
 refine w_aloadN (pc' := 34) X82 hx hby djdk42m149_33 rfl rfl rfl ?_
 refine w_iloadN (pc' := 35) X82 hx hby djdk42m149_34 rfl rfl ?_
 refine w_iloadN (pc' := 36) X82 hx hby djdk42m149_35 rfl rfl ?_
 obtain ⟨_, _, ⟨T83, L83, k83, n83⟩, -, X83, ⟨Lc83, hQ83, l83, y83, z83⟩, st83⟩ := Jvm.LawKit.callS X82 hx (y := (⟨"java/lang/StringUTF16", "compress", "([CII)[B"⟩ : MethodName)) hown (mvT hZ (wi hw 73 rfl)) (mvT hZ (wi hw 74 rfl)) (mvT hZ (wi hw 75 rfl)) (mvT hZ (wi hw 76 rfl)) (by decide) (backOf (W := 0) (rm_cmp3_1 l Z a0 hw [] ca kc cc0 h0 n0 Z0 f5 (hg0)) hZ (wi hw 76 rfl) (wi hw 75 rfl) (by decide) (by decide)) (g := (mkF m 36 #[.val (.ref a5), .val (.ref ca), .val (.int 0), .val (.int 1), .val .null, .unset] [(.int 1), (.int 0), (.ref ca)])) rfl (by rw [hml]; rfl) (argsL := [(.ref ca), (.int 0), (.int 1)]) (rest := []) (lenOf pd___CII__B rfl) rfl (by show 2 * 0 + _ ≤ _; exact Nat.le_of_eq rfl) (hb hby djdk42m149_36) (fun _ _ => ⟨rfl, e82, (by decide : 0 + 1 ≤ _), (by decide : 0 + 1 ≤ _)⟩)
 dsimp only [Pt.U, Pt.locs, Pt.cells, Pt.slots] at X83 l83 y83 z83 st83 hQ83
 subst l83 y83 z83
 obtain ⟨t_83, kt_83, rfl, NQ83, K83, pq83_0, fq83_0⟩ := hQ83
 have N84 := Fr.app N0 NQ83
 have ne85 := nlt f2.lt pq83_0
 have f88 := f2.keep K83
 have f89 := f3.keep K83 nin0
 have f90 := f4.keep K83 nin0
 have Kp93 : Keep h0 T83.heap [a5] := K00.trans K83 all0
 have Z94 := Nat.le_trans Z0 K83.1
 refine Rch.st (fun _ k => st83 _ k) ?_
 show Rch p e below T83 (mkF m 39 #[.val (.ref a5), .val (.ref ca), .val (.int 0), .val (.int 1), .val .null, .unset] [(.ref t_83)]) _
 refine w_astore (pc' := 41) (l' := #[.val (.ref a5), .val (.ref ca), .val (.int 0), .val (.int 1), .val .null, .val (.ref t_83)]) X83 hx hby djdk42m149_39 rfl rfl rfl ?_
 refine w_aloadN (pc' := 42) X83 hx hby djdk42m149_41 rfl rfl rfl ?_
 refine w_aload (pc' := 44) X83 hx hby djdk42m149_42 rfl rfl rfl ?_
 refine w_iloadN (pc' := 45) X83 hx hby djdk42m149_44 rfl rfl ?_
 obtain ⟨_, _, ⟨T95, L95, k95, n95⟩, -, X95, ⟨Lc95, hQ95, l95, y95, z95⟩, st95⟩ := Jvm.LawKit.callS X83 hx (y := (⟨"java/lang/StringUTF16", "coderFromArrayLen", "([BI)B"⟩ : MethodName)) hown (mvT hZ (wi hw 80 rfl)) (mvT hZ (wi hw 81 rfl)) (mvT hZ (wi hw 75 rfl)) (mvT hZ (wi hw 82 rfl)) (by decide) (backOf (W := 1) (rm_cfl l Z a0 hw [] t_83 kt_83 1 1 ([(.int (own_by cc0))]) (.int 0) T83.heap n0 Z94 fq83_0) hZ (wi hw 82 rfl) (wi hw 75 rfl) (by decide) (by decide)) (g := (mkF m 45 #[.val (.ref a5), .val (.ref ca), .val (.int 0), .val (.int 1), .val .null, .val (.ref t_83)] [(.int 1), (.ref t_83), (.ref a5)])) rfl (by rw [hml]; rfl) (argsL := [(.ref t_83), (.int 1)]) (rest := [(.ref a5)]) (lenOf pd___BI_B rfl) rfl (by show 2 * 0 + _ ≤ _; exact Nat.le_of_eq rfl) (hb hby djdk42m149_45) (fun _ _ => ⟨rfl, (rfl : T83.heap = T83.heap), (by decide : 1 + 0 ≤ _), (by decide : 1 + 0 ≤ _)⟩)
 dsimp only [Pt.U, Pt.locs, Pt.cells, Pt.slots] at X95 l95 y95 z95 st95 hQ95
 subst l95 y95 z95
 obtain ⟨rfl, NQ95, K95⟩ := hQ95
 have N96 := Fr.app N84 NQ95
 refine Rch.st (fun _ k => st95 _ k) ?_
 show Rch p e below T95 (mkF m 48 #[.val (.ref a5), .val (.ref ca), .val (.int 0), .val (.int 1), .val .null, .val (.ref t_83)] [(.int ((XT.ushr ((1 : Int32) - (1 : Int32)) (31 : Int32))).toInt8.toInt32), (.ref a5)]) _
 have r97 : ((XT.ushr ((1 : Int32) - (1 : Int32)) (31 : Int32))).toInt8.toInt32 = (0 : Int32) := by decide
 rw [r97]
 show Rch p e below T95 (mkF m 48 #[.val (.ref a5), .val (.ref ca), .val (.int 0), .val (.int 1), .val .null, .val (.ref t_83)] [(.int 0), (.ref a5)]) _
 obtain ⟨T98, h98, X98, e98, W98, st98⟩ := putF X95 hx hZ hown (host := "") (Or.inl (wi hw 37 rfl)) Via.refl K95 f89 f88 (Or.inr ⟨(wi hw 13 rfl), rfl, hnm⟩) (wi hw 10 rfl) (ty := .byte) (by decide) rfl rfl (g := (mkF m 48 #[.val (.ref a5), .val (.ref ca), .val (.int 0), .val (.int 1), .val .null, .val (.ref t_83)] [(.int 0), (.ref a5)])) rfl rfl (hb hby djdk42m149_48)
 have N99 := Fr.snoc X98 N96 ga
 have f100 := f88.wr W98
 have f101 := f89.same W98
 have f102 := f90.other W98 (Or.inr (slot_ne (t := (.array .byte)) (t' := .byte) (Or.inr (wi hw 12 rfl)) (Or.inr (wi hw 13 rfl)) (by decide) (by decide) (by decide)))
 have f104 := fq83_0.other W98 (Ne.symm ne85)
 have Kp107 : Keep h0 h98 [a5] := Kp93.wr W98 (Or.inl (List.mem_of_getElem? (i := 0) rfl))
 refine Rch.st (fun _ k => st98 _ k) ?_
 show Rch p e below T98 (mkF m 51 #[.val (.ref a5), .val (.ref ca), .val (.int 0), .val (.int 1), .val .null, .val (.ref t_83)] []) _
 refine w_aloadN (pc' := 52) X98 hx hby djdk42m149_51 rfl rfl rfl ?_
 refine w_aload (pc' := 54) X98 hx hby djdk42m149_52 rfl rfl rfl ?_
 obtain ⟨T108, h108, X108, e108, W108, st108⟩ := putF X98 hx hZ hown (host := "") (Or.inl (wi hw 30 rfl)) Via.refl e98 f102 f100 (Or.inr ⟨(wi hw 12 rfl), rfl, hnm⟩) (wi hw 10 rfl) (ty := (.array .byte)) (by decide) rfl rfl (g := (mkF m 54 #[.val (.ref a5), .val (.ref ca), .val (.int 0), .val (.int 1), .val .null, .val (.ref t_83)] [(.ref t_83), (.ref a5)])) rfl rfl (hb hby djdk42m149_54)
 have N109 := Fr.snoc X108 N99 ga
 have f111 := f101.other W108 (Or.inr (slot_ne (t := .byte) (t' := (.array .byte)) (Or.inr (wi hw 13 rfl)) (Or.inr (wi hw 12 rfl)) (by decide) (by decide) (by decide)))
 have f112 := f102.same W108
 have f114 := f104.other W108 (Ne.symm ne85)
 have Kp117 : Keep h0 h108 [a5] := Kp107.wr W108 (Or.inl (List.mem_of_getElem? (i := 0) rfl))
 refine Rch.st (fun _ k => st108 _ k) ?_
 show Rch p e below T108 (mkF m 57 #[.val (.ref a5), .val (.ref ca), .val (.int 0), .val (.int 1), .val .null, .val (.ref t_83)] []) _
 exact Rch.ret0 X108 hx Bd.returns (hb hby djdk42m149_57) (by rw [e108]; exact ⟨t_83, kt_83, rfl, N109, Kp117, (Nat.le_trans K00.1 pq83_0), f111, f112, f114⟩) (by decide) (by decide)

theorem djdk42m3_0 : decode jdk_42_method_3_code 0 = .ok (.aload_n 0, 1) := by decide +kernel
theorem djdk42m3_1 : decode jdk_42_method_3_code 1 = .ok (.aload_n 1, 1) := by decide +kernel
theorem djdk42m3_2 : decode jdk_42_method_3_code 2 = .ok (.iconst 0, 1) := by decide +kernel
theorem djdk42m3_3 : decode jdk_42_method_3_code 3 = .ok (.aload_n 1, 1) := by decide +kernel
theorem djdk42m3_4 : decode jdk_42_method_3_code 4 = .ok (.arraylength, 1) := by decide +kernel
theorem djdk42m3_5 : decode jdk_42_method_3_code 5 = .ok (.aconst_null, 1) := by decide +kernel
theorem djdk42m3_6 : decode jdk_42_method_3_code 6 = .ok (.invokespecial 27, 3) := by decide +kernel
theorem djdk42m3_9 : decode jdk_42_method_3_code 9 = .ok (.return_, 1) := by decide +kernel
theorem ef_rm_init1_1 (m : MethodId) (G1 : Int32) (a5 : Addr) (ca : Addr) (kc : ClassId) (cc0 : Int32)  : entryFrame m #[(.ref a5), (.ref ca)] 2 = mkF m 0 #[.val (.ref a5), .val (.ref ca)] [] := by  first | (simp [entryFrame, mkF, argsToLocals, Value.category, maxLocals]; done) | rfl
def Q_rm_init1_1 (Z : State) (G1 : Int32) (a5 : Addr) (ca : Addr) (kc : ClassId) (cc0 : Int32) (h0 : Heap) (n0 : Nat) (v : Option Value) (h : Heap) (L : List Loc) : Prop := ∃ (t : Addr) (kt : ClassId), (v = none) ∧ (Fr n0 L) ∧ (Keep h0 h [a5]) ∧ (h0.size ≤ t) ∧ (Fld Z h a5 "java/lang/String" "coder" "B" (.int (0 : Int32))) ∧ (Fld Z h a5 "java/lang/String" "value" "[B" (.ref t)) ∧ (Arv Z h t kt .byte (1 : Int32) [(.int (own_by cc0))] (.int (0 : Int32)))
theorem pd___CIILjava_lang_Void__V : parseMethodDescriptor "([CIILjava/lang/Void;)V" = some ⟨[(.array .char), .int, .int, (.object "java/lang/Void")], none⟩ := by decide +kernel
set_option maxRecDepth 65536 in
set_option maxHeartbeats 40000000 in
theorem rm_init1_1 (l : Launch) (Z : State) (a0 : Array Value) (hw : ∀ d ∈ tables_1, d.before a0 Z = true) (ws : List Jvm.Cond) (G1 : Int32) (a5 : Addr) (ca : Addr) (kc : ClassId) (cc0 : Int32) (h0 : Heap) (n0 : Nat) (Z0 : n0 ≤ h0.size) (O2 : Sta Z Z.heap "java/lang/String" "COMPACT_STRINGS" "Z" (.int G1)) (P5 : ¬ G1 = 0) (f2 : Exa Z h0 a5 "java/lang/String") (f3 : Fld Z h0 a5 "java/lang/String" "coder" "B" (.int (0 : Int32))) (f4 : Fld Z h0 a5 "java/lang/String" "value" "[B" .null) (f5 : Arv Z h0 ca kc .char (1 : Int32) [(.int cc0)] (.int (0 : Int32))) (ga : n0 ≤ a5) (nca : a5 ≠ ca) (hg0 : ¬ (255 : Int32) < cc0) (Old0 : OldL Z n0 h0) :
    MetFree l (⟨"java/lang/String", "<init>", "([C)V"⟩ : MethodName) (head1 (Jvm.Cond.code (⟨"java/lang/String", "<init>", "([C)V"⟩ : MethodName) jdk_42_method_3_code 2 none :: ws) ({ frames := 3, cells := 1, slots := 1, locals := 52 } : Room)) (fun a U => a = #[(.ref a5), (.ref ca)] ∧ Z.Warmed39 U.vm ∧ U.heap = h0) (fun _ _ _ _ _ => True) (fun _ U o U' => ∃ v L, o = .returned v ∧ Q_rm_init1_1 Z G1 a5 ca kc cc0 h0 n0 v U'.heap L ∧ FrameEnd U o U' L ({ frames := 3, cells := 1, slots := 1, locals := 52 } : Room).cells ({ frames := 3, cells := 1, slots := 1, locals := 52 } : Room).slots) := by
 refine MetFree.of_bodySF (plainFor_of_name pn_java_lang_String) hisR ?_
 intro p e s m args below meth c s₁ Bd hml0 hP hK
 obtain ⟨rfl, hZ, hh⟩ := hP
 have hx := Bd.exec
 have hby := Bd.bytes
 have hml : c.maxLocals = 2 := hml0
 have hown : s.vm.findClass "java/lang/String" = some m.cls := findClass_of_methodNamed Bd.named
 have hnm := (name_of_methodNamed Bd.named Bd.method).1
 have X0 : Stand p l e ({ frames := 3, cells := 1, slots := 1, locals := 52 } : Room) s m #[(.ref a5), (.ref ca)] below meth c s₁ [] 0 0 := Stand.of_body Bd
 have e0 : s₁.heap = h0 := by rw [← hh, Bd.state]; rfl
 have N0 := Fr.nil n0
 have K00 : Keep h0 h0 [a5] := Keep.refl _ _
 show Rch p e below s₁ (entryFrame m #[(.ref a5), (.ref ca)] 2) (FinP s (Q_rm_init1_1 Z G1 a5 ca kc cc0 h0 n0) 1 1)
 refine Rch.cast (ef_rm_init1_1 m G1 a5 ca kc cc0) ?_
 show Rch p e below s₁ (mkF m 0 #[.val (.ref a5), .val (.ref ca)] []) _
 refine w_aloadN (pc' := 1) X0 hx hby djdk42m3_0 rfl rfl rfl ?_
 refine w_aloadN (pc' := 2) X0 hx hby djdk42m3_1 rfl rfl rfl ?_
 refine w_iconst (pc' := 3) (v := 0) X0 hx hby djdk42m3_2 rfl rfl ?_
 refine w_aloadN (pc' := 4) X0 hx hby djdk42m3_3 rfl rfl rfl ?_
 refine Rch.st (fun _ k => own_alen X0 hx hZ e0 f5 rfl rfl (hb hby djdk42m3_4) k) ?_
 show Rch p e below s₁ (mkF m 5 #[.val (.ref a5), .val (.ref ca)] [(.int 1), (.int 0), (.ref ca), (.ref a5)]) _
 refine w_aconstNull (pc' := 6) X0 hx hby djdk42m3_5 rfl ?_
 obtain ⟨_, _, ⟨T118, L118, k118, n118⟩, -, X118, ⟨Lc118, hQ118, l118, y118, z118⟩, st118⟩ := X0.specialBack hx (y := (⟨"java/lang/String", "<init>", "([CIILjava/lang/Void;)V"⟩ : MethodName)) rfl hown (mvT hZ (wi hw 66 rfl)) (mvT hZ (wi hw 67 rfl)) (mvT hZ (wi hw 69 rfl)) (by decide) (backOf (W := 0) (rm_init4_1 l Z a0 hw [] G1 a5 ca kc cc0 h0 n0 Z0 (O2) (P5) f2 f3 f4 f5 (ga) (nca) (hg0) Old0) hZ (wi hw 69 rfl) (wi hw 9 rfl) (by decide) (by decide)) (g := (mkF m 6 #[.val (.ref a5), .val (.ref ca)] [.null, (.int 1), (.int 0), (.ref ca), (.ref a5)])) rfl (by rw [hml]; rfl) (Steps.refl _) (a := a5) (argsL := [(.ref ca), (.int 0), (.int 1), .null]) (rest := []) (lenOf pd___CIILjava_lang_Void__V rfl) rfl (by show 2 * 0 + _ ≤ _; exact Nat.le_of_eq rfl) (hb hby djdk42m3_6) (fun _ _ => ⟨rfl, e0, (by decide : 0 + 1 ≤ _), (by decide : 0 + 1 ≤ _)⟩)
 dsimp only [Pt.U, Pt.locs, Pt.cells, Pt.slots] at X118 l118 y118 z118 st118 hQ118
 subst l118 y118 z118
 obtain ⟨t_118, kt_118, rfl, NQ118, K118, pq118_0, fq118_0, fq118_1, fq118_2⟩ := hQ118
 have N119 := Fr.app N0 NQ118
 have Kp126 : Keep h0 T118.heap [a5] := K00.trans K118 (allS (Or.inl (List.mem_of_getElem? (i := 0) rfl)) all0)
 refine Rch.st (fun _ k => st118.trans k) ?_
 show Rch p e below T118 (mkF m 9 #[.val (.ref a5), .val (.ref ca)] []) _
 exact Rch.ret0 X118 hx Bd.returns (hb hby djdk42m3_9) (by rw [(rfl : T118.heap = T118.heap)]; exact ⟨t_118, kt_118, rfl, N119, Kp126, (Nat.le_trans K00.1 pq118_0), fq118_0, fq118_1, fq118_2⟩) (by decide) (by decide)

theorem ef_rm_cmp5_2 (m : MethodId) (ca : Addr) (kc : ClassId) (bd : Addr) (kd : ClassId) (cc0 : Int32) (cc1 : Int32)  : entryFrame m #[(.ref ca), (.int (0 : Int32)), (.ref bd), (.int (0 : Int32)), (.int (2 : Int32))] 7 = mkF m 0 #[.val (.ref ca), .val (.int (0 : Int32)), .val (.ref bd), .val (.int (0 : Int32)), .val (.int (2 : Int32)), .unset, .unset] [] := by  first | (simp [entryFrame, mkF, argsToLocals, Value.category, maxLocals]; done) | rfl
def Q_rm_cmp5_2 (Z : State) (ca : Addr) (kc : ClassId) (bd : Addr) (kd : ClassId) (cc0 : Int32) (cc1 : Int32) (h0 : Heap) (n0 : Nat) (v : Option Value) (h : Heap) (L : List Loc) : Prop := (v = some (.int (2 : Int32))) ∧ (Fr n0 L) ∧ (Keep h0 h [bd]) ∧ (Arv Z h bd kd .byte (2 : Int32) [(.int (own_by cc0)), (.int (own_by cc1))] (.int (0 : Int32)))
set_option maxRecDepth 65536 in
set_option maxHeartbeats 40000000 in
theorem rm_cmp5_2 (l : Launch) (Z : State) (a0 : Array Value) (hw : ∀ d ∈ tables_1, d.before a0 Z = true) (ws : List Jvm.Cond) (ca : Addr) (kc : ClassId) (bd : Addr) (kd : ClassId) (cc0 : Int32) (cc1 : Int32) (h0 : Heap) (n0 : Nat) (Z0 : n0 ≤ h0.size) (f0 : Arv Z h0 ca kc .char (2 : Int32) [(.int cc0), (.int cc1)] (.int (0 : Int32))) (f1 : Arv Z h0 bd kd .byte (2 : Int32) [(.int (0 : Int32)), (.int (0 : Int32))] (.int (0 : Int32))) (gd : n0 ≤ bd) (ncd : ca ≠ bd) (hg0 : ¬ (255 : Int32) < cc0) (hg1 : ¬ (255 : Int32) < cc1) :
    MetFree l (⟨"java/lang/StringUTF16", "compress", "([CI[BII)I"⟩ : MethodName) (head1 (Jvm.Cond.code (⟨"java/lang/StringUTF16", "compress", "([CI[BII)I"⟩ : MethodName) jdk_52_method_21_code 7 (some .int) :: ws) ({ frames := 0, cells := 0, slots := 0, locals := 0 } : Room)) (fun a U => a = #[(.ref ca), (.int (0 : Int32)), (.ref bd), (.int (0 : Int32)), (.int (2 : Int32))] ∧ Z.Warmed39 U.vm ∧ U.heap = h0) (fun _ _ _ _ _ => True) (fun _ U o U' => ∃ v L, o = .returned v ∧ Q_rm_cmp5_2 Z ca kc bd kd cc0 cc1 h0 n0 v U'.heap L ∧ FrameEnd U o U' L ({ frames := 0, cells := 0, slots := 0, locals := 0 } : Room).cells ({ frames := 0, cells := 0, slots := 0, locals := 0 } : Room).slots) := by
 refine MetFree.of_bodySF (plainFor_of_name pn_java_lang_StringUTF16) hisR ?_
 intro p e s m args below meth c s₁ Bd hml0 hP hK
 obtain ⟨rfl, hZ, hh⟩ := hP
 have hx := Bd.exec
 have hby := Bd.bytes
 have hml : c.maxLocals = 7 := hml0
 have hown : s.vm.findClass "java/lang/StringUTF16" = some m.cls := findClass_of_methodNamed Bd.named
 have hnm := (name_of_methodNamed Bd.named Bd.method).1
 have X0 : Stand p l e ({ frames := 0, cells := 0, slots := 0, locals := 0 } : Room) s m #[(.ref ca), (.int (0 : Int32)), (.ref bd), (.int (0 : Int32)), (.int (2 : Int32))] below meth c s₁ [] 0 0 := Stand.of_body Bd
 have e0 : s₁.heap = h0 := by rw [← hh, Bd.state]; rfl
 have N0 := Fr.nil n0
 have K00 : Keep h0 h0 [bd] := Keep.refl _ _
 show Rch p e below s₁ (entryFrame m #[(.ref ca), (.int (0 : Int32)), (.ref bd), (.int (0 : Int32)), (.int (2 : Int32))] 7) (FinP s (Q_rm_cmp5_2 Z ca kc bd kd cc0 cc1 h0 n0) 0 0)
 refine Rch.cast (ef_rm_cmp5_2 m ca kc bd kd cc0 cc1) ?_
 show Rch p e below s₁ (mkF m 0 #[.val (.ref ca), .val (.int 0), .val (.ref bd), .val (.int 0), .val (.int 2), .unset, .unset] []) _
 refine w_iconst (pc' := 1) (v := 0) X0 hx hby djdk52m21_0 rfl rfl ?_
 refine w_istore (pc' := 3) (l' := #[.val (.ref ca), .val (.int 0), .val (.ref bd), .val (.int 0), .val (.int 2), .val (.int 0), .unset]) X0 hx hby djdk52m21_1 rfl rfl ?_
 refine w_iload (pc' := 5) X0 hx hby djdk52m21_3 rfl rfl ?_
 refine w_iload (pc' := 7) X0 hx hby djdk52m21_5 rfl rfl ?_
 refine w_icmpNo (pc' := 10) X0 hx hby djdk52m21_7 (XT.ii_ge_f (by decide)) rfl ?_
 refine w_aloadN (pc' := 11) X0 hx hby djdk52m21_10 rfl rfl rfl ?_
 refine w_iloadN (pc' := 12) X0 hx hby djdk52m21_11 rfl rfl ?_
 refine Rch.st (fun _ k => own_ldC X0 hx hZ e0 f0 (j := (0 : Int32)) ⟨by decide, by decide⟩ (by rfl) rfl rfl (hb hby djdk52m21_12) k) ?_
 show Rch p e below s₁ (mkF m 13 #[.val (.ref ca), .val (.int 0), .val (.ref bd), .val (.int 0), .val (.int 2), .val (.int 0), .unset] [(.int cc0)]) _
 refine w_istore (pc' := 15) (l' := #[.val (.ref ca), .val (.int 0), .val (.ref bd), .val (.int 0), .val (.int 2), .val (.int 0), .val (.int cc0)]) X0 hx hby djdk52m21_13 rfl rfl ?_
 refine w_iload (pc' := 17) X0 hx hby djdk52m21_15 rfl rfl ?_
 refine w_sipush (pc' := 20) (v := 255) X0 hx hby djdk52m21_17 rfl rfl ?_
 refine w_icmpYes (pc' := 26) X0 hx hby djdk52m21_20 (XT.ii_le_t (hg0)) (by decide) ?_
 refine w_aloadN (pc' := 27) X0 hx hby djdk52m21_26 rfl rfl rfl ?_
 refine w_iloadN (pc' := 28) X0 hx hby djdk52m21_27 rfl rfl ?_
 refine w_iload (pc' := 30) X0 hx hby djdk52m21_28 rfl rfl ?_
 refine w_i2b (pc' := 31) X0 hx hby djdk52m21_30 rfl ?_
 obtain ⟨T128, h128, X128, e128, W128, V128, st128⟩ := own_stB X0 hx hZ e0 f1 (j := (0 : Int32)) ⟨by decide, by decide⟩ 0 (by decide) (by decide : 0 < 2) (g := (mkF m 31 #[.val (.ref ca), .val (.int 0), .val (.ref bd), .val (.int 0), .val (.int 2), .val (.int 0), .val (.int cc0)] [(.int (cc0).toInt8.toInt32), (.int 0), (.ref bd)])) rfl rfl (hb hby djdk52m21_31)
 have N129 := Fr.snoc X128 N0 gd
 have f130 := f0.other W128 ncd
 have Kp132 : Keep h0 h128 [bd] := K00.wr W128 (Or.inl (List.mem_of_getElem? (i := 0) rfl))
 have f133 : Arv Z h128 bd kd .byte (2 : Int32) [(.int ((cc0).toInt8.toInt32).toInt8.toInt32), (.int (0 : Int32))] (.int (0 : Int32)) := V128
 refine Rch.st (fun _ k => st128 _ k) ?_
 show Rch p e below T128 (mkF m 32 #[.val (.ref ca), .val (.int 0), .val (.ref bd), .val (.int 0), .val (.int 2), .val (.int 0), .val (.int cc0)] []) _
 refine w_iinc (pc' := 35) (w := (1 : Int32)) (l' := #[.val (.ref ca), .val (.int (1 : Int32)), .val (.ref bd), .val (.int (0 : Int32)), .val (.int (2 : Int32)), .val (.int (0 : Int32)), .val (.int cc0)]) X128 hx hby djdk52m21_32 rfl (by decide) rfl rfl ?_
 refine w_iinc (pc' := 38) (w := (1 : Int32)) (l' := #[.val (.ref ca), .val (.int (1 : Int32)), .val (.ref bd), .val (.int (1 : Int32)), .val (.int (2 : Int32)), .val (.int (0 : Int32)), .val (.int cc0)]) X128 hx hby djdk52m21_35 rfl (by decide) rfl rfl ?_
 refine w_iinc (pc' := 41) (w := (1 : Int32)) (l' := #[.val (.ref ca), .val (.int (1 : Int32)), .val (.ref bd), .val (.int (1 : Int32)), .val (.int (2 : Int32)), .val (.int (1 : Int32)), .val (.int cc0)]) X128 hx hby djdk52m21_38 rfl (by decide) rfl rfl ?_
 refine w_goto (pc' := 3) X128 hx hby djdk52m21_41 (by decide) ?_
 refine w_iload (pc' := 5) X128 hx hby djdk52m21_3 rfl rfl ?_
 refine w_iload (pc' := 7) X128 hx hby djdk52m21_5 rfl rfl ?_
 refine w_icmpNo (pc' := 10) X128 hx hby djdk52m21_7 (XT.ii_ge_f (by decide)) rfl ?_
 refine w_aloadN (pc' := 11) X128 hx hby djdk52m21_10 rfl rfl rfl ?_
 refine w_iloadN (pc' := 12) X128 hx hby djdk52m21_11 rfl rfl ?_
 refine Rch.st (fun _ k => own_ldC X128 hx hZ e128 f130 (j := (1 : Int32)) ⟨by decide, by decide⟩ (by rfl) rfl rfl (hb hby djdk52m21_12) k) ?_
 show Rch p e below T128 (mkF m 13 #[.val (.ref ca), .val (.int 1), .val (.ref bd), .val (.int 1), .val (.int 2), .val (.int 1), .val (.int cc0)] [(.int cc1)]) _
 refine w_istore (pc' := 15) (l' := #[.val (.ref ca), .val (.int 1), .val (.ref bd), .val (.int 1), .val (.int 2), .val (.int 1), .val (.int cc1)]) X128 hx hby djdk52m21_13 rfl rfl ?_
 refine w_iload (pc' := 17) X128 hx hby djdk52m21_15 rfl rfl ?_
 refine w_sipush (pc' := 20) (v := 255) X128 hx hby djdk52m21_17 rfl rfl ?_
 refine w_icmpYes (pc' := 26) X128 hx hby djdk52m21_20 (XT.ii_le_t (hg1)) (by decide) ?_
 refine w_aloadN (pc' := 27) X128 hx hby djdk52m21_26 rfl rfl rfl ?_
 refine w_iloadN (pc' := 28) X128 hx hby djdk52m21_27 rfl rfl ?_
 refine w_iload (pc' := 30) X128 hx hby djdk52m21_28 rfl rfl ?_
 refine w_i2b (pc' := 31) X128 hx hby djdk52m21_30 rfl ?_
 obtain ⟨T134, h134, X134, e134, W134, V134, st134⟩ := own_stB X128 hx hZ e128 f133 (j := (1 : Int32)) ⟨by decide, by decide⟩ 1 (by decide) (by decide : 1 < 2) (g := (mkF m 31 #[.val (.ref ca), .val (.int 1), .val (.ref bd), .val (.int 1), .val (.int 2), .val (.int 1), .val (.int cc1)] [(.int (cc1).toInt8.toInt32), (.int 1), (.ref bd)])) rfl rfl (hb hby djdk52m21_31)
 have N135 := Fr.snoc X134 N129 gd
 have Kp138 : Keep h0 h134 [bd] := Kp132.wr W134 (Or.inl (List.mem_of_getElem? (i := 0) rfl))
 have f139 : Arv Z h134 bd kd .byte (2 : Int32) [(.int ((cc0).toInt8.toInt32).toInt8.toInt32), (.int ((cc1).toInt8.toInt32).toInt8.toInt32)] (.int (0 : Int32)) := V134
 refine Rch.st (fun _ k => st134 _ k) ?_
 show Rch p e below T134 (mkF m 32 #[.val (.ref ca), .val (.int 1), .val (.ref bd), .val (.int 1), .val (.int 2), .val (.int 1), .val (.int cc1)] []) _
 refine w_iinc (pc' := 35) (w := (2 : Int32)) (l' := #[.val (.ref ca), .val (.int (2 : Int32)), .val (.ref bd), .val (.int (1 : Int32)), .val (.int (2 : Int32)), .val (.int (1 : Int32)), .val (.int cc1)]) X134 hx hby djdk52m21_32 rfl (by decide) rfl rfl ?_
 refine w_iinc (pc' := 38) (w := (2 : Int32)) (l' := #[.val (.ref ca), .val (.int (2 : Int32)), .val (.ref bd), .val (.int (2 : Int32)), .val (.int (2 : Int32)), .val (.int (1 : Int32)), .val (.int cc1)]) X134 hx hby djdk52m21_35 rfl (by decide) rfl rfl ?_
 refine w_iinc (pc' := 41) (w := (2 : Int32)) (l' := #[.val (.ref ca), .val (.int (2 : Int32)), .val (.ref bd), .val (.int (2 : Int32)), .val (.int (2 : Int32)), .val (.int (2 : Int32)), .val (.int cc1)]) X134 hx hby djdk52m21_38 rfl (by decide) rfl rfl ?_
 refine w_goto (pc' := 3) X134 hx hby djdk52m21_41 (by decide) ?_
 refine w_iload (pc' := 5) X134 hx hby djdk52m21_3 rfl rfl ?_
 refine w_iload (pc' := 7) X134 hx hby djdk52m21_5 rfl rfl ?_
 refine w_icmpYes (pc' := 44) X134 hx hby djdk52m21_7 (XT.ii_ge_t (by decide)) (by decide) ?_
 refine w_iload (pc' := 46) X134 hx hby djdk52m21_44 rfl rfl ?_
 exact Rch.retV X134 hx Bd.returns rfl (Or.inl ⟨rfl, by simp, _, rfl⟩) (hb hby djdk52m21_46) (by rw [e134]; exact ⟨rfl, N135, Kp138, f139⟩) (by decide) (by decide)

theorem ef_rm_cmp3_2 (m : MethodId) (ca : Addr) (kc : ClassId) (cc0 : Int32) (cc1 : Int32)  : entryFrame m #[(.ref ca), (.int (0 : Int32)), (.int (2 : Int32))] 6 = mkF m 0 #[.val (.ref ca), .val (.int (0 : Int32)), .val (.int (2 : Int32)), .unset, .unset, .unset] [] := by  first | (simp [entryFrame, mkF, argsToLocals, Value.category, maxLocals]; done) | rfl
def Q_rm_cmp3_2 (Z : State) (ca : Addr) (kc : ClassId) (cc0 : Int32) (cc1 : Int32) (h0 : Heap) (n0 : Nat) (v : Option Value) (h : Heap) (L : List Loc) : Prop := ∃ (t : Addr) (kt : ClassId), (v = some (.ref t)) ∧ (Fr n0 L) ∧ (Keep h0 h []) ∧ (h0.size ≤ t) ∧ (Arv Z h t kt .byte (2 : Int32) [(.int (own_by cc0)), (.int (own_by cc1))] (.int (0 : Int32)))
set_option maxRecDepth 65536 in
set_option maxHeartbeats 40000000 in
theorem rm_cmp3_2 (l : Launch) (Z : State) (a0 : Array Value) (hw : ∀ d ∈ tables_1, d.before a0 Z = true) (ws : List Jvm.Cond) (ca : Addr) (kc : ClassId) (cc0 : Int32) (cc1 : Int32) (h0 : Heap) (n0 : Nat) (Z0 : n0 ≤ h0.size) (f0 : Arv Z h0 ca kc .char (2 : Int32) [(.int cc0), (.int cc1)] (.int (0 : Int32))) (hg0 : ¬ (255 : Int32) < cc0) (hg1 : ¬ (255 : Int32) < cc1) :
    MetFree l (⟨"java/lang/StringUTF16", "compress", "([CII)[B"⟩ : MethodName) (head1 (Jvm.Cond.code (⟨"java/lang/StringUTF16", "compress", "([CII)[B"⟩ : MethodName) jdk_52_method_16_code 6 (some (.array .byte)) :: ws) ({ frames := 1, cells := 1, slots := 2, locals := 18 } : Room)) (fun a U => a = #[(.ref ca), (.int (0 : Int32)), (.int (2 : Int32))] ∧ Z.Warmed39 U.vm ∧ U.heap = h0) (fun _ _ _ _ _ => True) (fun _ U o U' => ∃ v L, o = .returned v ∧ Q_rm_cmp3_2 Z ca kc cc0 cc1 h0 n0 v U'.heap L ∧ FrameEnd U o U' L ({ frames := 1, cells := 1, slots := 2, locals := 18 } : Room).cells ({ frames := 1, cells := 1, slots := 2, locals := 18 } : Room).slots) := by
 refine MetFree.of_bodySF (plainFor_of_name pn_java_lang_StringUTF16) hisR ?_
 intro p e s m args below meth c s₁ Bd hml0 hP hK
 obtain ⟨rfl, hZ, hh⟩ := hP
 have hx := Bd.exec
 have hby := Bd.bytes
 have hml : c.maxLocals = 6 := hml0
 have hown : s.vm.findClass "java/lang/StringUTF16" = some m.cls := findClass_of_methodNamed Bd.named
 have hnm := (name_of_methodNamed Bd.named Bd.method).1
 have X0 : Stand p l e ({ frames := 1, cells := 1, slots := 2, locals := 18 } : Room) s m #[(.ref ca), (.int (0 : Int32)), (.int (2 : Int32))] below meth c s₁ [] 0 0 := Stand.of_body Bd
 have e0 : s₁.heap = h0 := by rw [← hh, Bd.state]; rfl
 have N0 := Fr.nil n0
 have K00 : Keep h0 h0 [] := Keep.refl _ _
 show Rch p e below s₁ (entryFrame m #[(.ref ca), (.int (0 : Int32)), (.int (2 : Int32))] 6) (FinP s (Q_rm_cmp3_2 Z ca kc cc0 cc1 h0 n0) 1 2)
 refine Rch.cast (ef_rm_cmp3_2 m ca kc cc0 cc1) ?_
 show Rch p e below s₁ (mkF m 0 #[.val (.ref ca), .val (.int 0), .val (.int 2), .unset, .unset, .unset] []) _
 refine w_iloadN (pc' := 1) X0 hx hby djdk52m16_0 rfl rfl ?_
 obtain ⟨T140, h140, kc140, X140, e140, E140, A140, st140⟩ := newP X0 hx hZ (wi hw 11 rfl) e0 (g := (mkF m 1 #[.val (.ref ca), .val (.int 0), .val (.int 2), .unset, .unset, .unset] [(.int 2)])) rfl (hb hby djdk52m16_1) rfl (by decide : ¬ ((2 : Int32) < (0 : Int32))) (cap := 2) (by decide : (2 : Int32).toNatClampNeg ≤ 2) (by decide) (by decide) (by decide)
 obtain ⟨a140, g140⟩ : ∃ z, z = h0.size := ⟨_, rfl⟩
 rw [← g140] at A140 st140
 have ne141 : ca ≠ a140 := by rw [g140]; exact Nat.ne_of_lt f0.lt
 have ge142 : n0 ≤ a140 := Nat.le_trans Z0 (Nat.le_of_eq g140.symm)
 have f144 := f0.ext E140
 have Z145 := Nat.le_trans Z0 E140.1
 have Kp146 : Keep h0 h140 [] := K00.ext E140
 have f147 : Arv Z h140 a140 kc140 .byte (2 : Int32) [(.int (0 : Int32)), (.int (0 : Int32))] (.int (0 : Int32)) := (Arv.new A140 (by decide : ¬ ((2 : Int32) < (0 : Int32)))).pad (pad_rep [] (.int (0 : Int32)) 2)
 refine Rch.st (fun _ k => st140 _ k) ?_
 show Rch p e below T140 (mkF m 3 #[.val (.ref ca), .val (.int 0), .val (.int 2), .unset, .unset, .unset] [(.ref a140)]) _
 refine w_astoreN (pc' := 4) (l' := #[.val (.ref ca), .val (.int 0), .val (.int 2), .val (.ref a140), .unset, .unset]) X140 hx hby djdk52m16_3 rfl rfl rfl ?_
 refine w_aloadN (pc' := 5) X140 hx hby djdk52m16_4 rfl rfl rfl ?_
 refine w_iloadN (pc' := 6) X140 hx hby djdk52m16_5 rfl rfl ?_
 refine w_aloadN (pc' := 7) X140 hx hby djdk52m16_6 rfl rfl rfl ?_
 refine w_iconst (pc' := 8) (v := 0) X140 hx hby djdk52m16_7 rfl rfl ?_
 refine w_iloadN (pc' := 9) X140 hx hby djdk52m16_8 rfl rfl ?_
 obtain ⟨_, _, ⟨T148, L148, k148, n148⟩, -, X148, ⟨Lc148, hQ148, l148, y148, z148⟩, st148⟩ := Jvm.LawKit.callS X140 hx (y := (⟨"java/lang/StringUTF16", "compress", "([CI[BII)I"⟩ : MethodName)) hown (mvT hZ (wi hw 77 rfl)) (mvT hZ (wi hw 78 rfl)) (mvT hZ (wi hw 75 rfl)) (mvT hZ (wi hw 79 rfl)) (by decide) (backOf (W := 0) (rm_cmp5_2 l Z a0 hw [] ca kc a140 kc140 cc0 cc1 h140 n0 Z145 f144 f147 (ge142) (ne141) (hg0) (hg1)) hZ (wi hw 79 rfl) (wi hw 75 rfl) (by decide) (by decide)) (g := (mkF m 9 #[.val (.ref ca), .val (.int 0), .val (.int 2), .val (.ref a140), .unset, .unset] [(.int 2), (.int 0), (.ref a140), (.int 0), (.ref ca)])) rfl (by rw [hml]; rfl) (argsL := [(.ref ca), (.int 0), (.ref a140), (.int 0), (.int 2)]) (rest := []) (lenOf pd___CI_BII_I rfl) rfl (by show 2 * 0 + _ ≤ _; exact Nat.le_of_eq rfl) (hb hby djdk52m16_9) (fun _ _ => ⟨rfl, e140, (by decide : 1 + 0 ≤ _), (by decide : 2 + 0 ≤ _)⟩)
 dsimp only [Pt.U, Pt.locs, Pt.cells, Pt.slots] at X148 l148 y148 z148 st148 hQ148
 subst l148 y148 z148
 obtain ⟨rfl, NQ148, K148, fq148_0⟩ := hQ148
 have N149 := Fr.app N0 NQ148
 have Kp151 : Keep h0 T148.heap [] := Kp146.trans K148 (allS (Or.inr (Nat.le_trans K00.1 (Nat.le_of_eq g140.symm))) all0)
 refine Rch.st (fun _ k => st148 _ k) ?_
 show Rch p e below T148 (mkF m 12 #[.val (.ref ca), .val (.int 0), .val (.int 2), .val (.ref a140), .unset, .unset] [(.int 2)]) _
 refine w_istore (pc' := 14) (l' := #[.val (.ref ca), .val (.int 0), .val (.int 2), .val (.ref a140), .val (.int 2), .unset]) X148 hx hby djdk52m16_12 rfl rfl ?_
 refine w_iload (pc' := 16) X148 hx hby djdk52m16_14 rfl rfl ?_
 refine w_iloadN (pc' := 17) X148 hx hby djdk52m16_16 rfl rfl ?_
 refine w_icmpYes (pc' := 57) X148 hx hby djdk52m16_17 (XT.ii_eq_t (rfl)) (by decide) ?_
 refine w_aloadN (pc' := 58) X148 hx hby djdk52m16_57 rfl rfl rfl ?_
 exact Rch.retV X148 hx Bd.returns rfl (Or.inr (Or.inr (Or.inr (Or.inr ⟨rfl, rfl, rfl⟩)))) (hb hby djdk52m16_58) (by rw [(rfl : T148.heap = T148.heap)]; exact ⟨a140, kc140, rfl, N149, Kp151, (Nat.le_trans K00.1 (Nat.le_of_eq g140.symm)), fq148_0⟩) (by decide) (by decide)

theorem ef_rm_init4_2 (m : MethodId) (G1 : Int32) (a5 : Addr) (ca : Addr) (kc : ClassId) (cc0 : Int32) (cc1 : Int32)  : entryFrame m #[(.ref a5), (.ref ca), (.int (0 : Int32)), (.int (2 : Int32)), .null] 6 = mkF m 0 #[.val (.ref a5), .val (.ref ca), .val (.int (0 : Int32)), .val (.int (2 : Int32)), .val .null, .unset] [] := by  first | (simp [entryFrame, mkF, argsToLocals, Value.category, maxLocals]; done) | rfl
def Q_rm_init4_2 (Z : State) (G1 : Int32) (a5 : Addr) (ca : Addr) (kc : ClassId) (cc0 : Int32) (cc1 : Int32) (h0 : Heap) (n0 : Nat) (v : Option Value) (h : Heap) (L : List Loc) : Prop := ∃ (t : Addr) (kt : ClassId), (v = none) ∧ (Fr n0 L) ∧ (Keep h0 h [a5]) ∧ (h0.size ≤ t) ∧ (Fld Z h a5 "java/lang/String" "coder" "B" (.int (0 : Int32))) ∧ (Fld Z h a5 "java/lang/String" "value" "[B" (.ref t)) ∧ (Arv Z h t kt .byte (2 : Int32) [(.int (own_by cc0)), (.int (own_by cc1))] (.int (0 : Int32)))
set_option maxRecDepth 65536 in
set_option maxHeartbeats 40000000 in
theorem rm_init4_2 (l : Launch) (Z : State) (a0 : Array Value) (hw : ∀ d ∈ tables_1, d.before a0 Z = true) (ws : List Jvm.Cond) (G1 : Int32) (a5 : Addr) (ca : Addr) (kc : ClassId) (cc0 : Int32) (cc1 : Int32) (h0 : Heap) (n0 : Nat) (Z0 : n0 ≤ h0.size) (O2 : Sta Z Z.heap "java/lang/String" "COMPACT_STRINGS" "Z" (.int G1)) (P5 : ¬ G1 = 0) (f2 : Exa Z h0 a5 "java/lang/String") (f3 : Fld Z h0 a5 "java/lang/String" "coder" "B" (.int (0 : Int32))) (f4 : Fld Z h0 a5 "java/lang/String" "value" "[B" .null) (f5 : Arv Z h0 ca kc .char (2 : Int32) [(.int cc0), (.int cc1)] (.int (0 : Int32))) (ga : n0 ≤ a5) (nca : a5 ≠ ca) (hg0 : ¬ (255 : Int32) < cc0) (hg1 : ¬ (255 : Int32) < cc1) (Old0 : OldL Z n0 h0) :
    MetFree l (⟨"java/lang/String", "<init>", "([CIILjava/lang/Void;)V"⟩ : MethodName) (head1 (Jvm.Cond.code (⟨"java/lang/String", "<init>", "([CIILjava/lang/Void;)V"⟩ : MethodName) jdk_42_method_149_code 6 none :: ws) ({ frames := 2, cells := 1, slots := 2, locals := 35 } : Room)) (fun a U => a = #[(.ref a5), (.ref ca), (.int (0 : Int32)), (.int (2 : Int32)), .null] ∧ Z.Warmed39 U.vm ∧ U.heap = h0) (fun _ _ _ _ _ => True) (fun _ U o U' => ∃ v L, o = .returned v ∧ Q_rm_init4_2 Z G1 a5 ca kc cc0 cc1 h0 n0 v U'.heap L ∧ FrameEnd U o U' L ({ frames := 2, cells := 1, slots := 2, locals := 35 } : Room).cells ({ frames := 2, cells := 1, slots := 2, locals := 35 } : Room).slots) := by
 refine MetFree.of_bodySF (plainFor_of_name pn_java_lang_String) hisR ?_
 intro p e s m args below meth c s₁ Bd hml0 hP hK
 obtain ⟨rfl, hZ, hh⟩ := hP
 have hx := Bd.exec
 have hby := Bd.bytes
 have hml : c.maxLocals = 6 := hml0
 have hown : s.vm.findClass "java/lang/String" = some m.cls := findClass_of_methodNamed Bd.named
 have hnm := (name_of_methodNamed Bd.named Bd.method).1
 have X0 : Stand p l e ({ frames := 2, cells := 1, slots := 2, locals := 35 } : Room) s m #[(.ref a5), (.ref ca), (.int (0 : Int32)), (.int (2 : Int32)), .null] below meth c s₁ [] 0 0 := Stand.of_body Bd
 have e0 : s₁.heap = h0 := by rw [← hh, Bd.state]; rfl
 have N0 := Fr.nil n0
 have K00 : Keep h0 h0 [a5] := Keep.refl _ _
 show Rch p e below s₁ (entryFrame m #[(.ref a5), (.ref ca), (.int (0 : Int32)), (.int (2 : Int32)), .null] 6) (FinP s (Q_rm_init4_2 Z G1 a5 ca kc cc0 cc1 h0 n0) 1 2)
 refine Rch.cast (ef_rm_init4_2 m G1 a5 ca kc cc0 cc1) ?_
 show Rch p e below s₁ (mkF m 0 #[.val (.ref a5), .val (.ref ca), .val (.int 0), .val (.int 2), .val .null, .unset] []) _
 refine w_aloadN (pc' := 1) X0 hx hby djdk42m149_0 rfl rfl rfl ?_
 obtain ⟨T153, X153, e153, st153⟩ := initO X0 hx hZ hown (wi hw 70 rfl) (wi hw 71 rfl) (wi hw 72 rfl) e0 (g := (mkF m 1 #[.val (.ref a5), .val (.ref ca), .val (.int 0), .val (.int 2), .val .null, .unset] [(.ref a5)])) rfl (by rw [hml]; rfl) rfl (hb hby djdk42m149_1) (by decide) (W := 0) (by show 2 * 0 + _ ≤ _; exact Nat.le_of_eq rfl) (by decide)
 refine Rch.st (fun _ k => st153 _ k) ?_
 show Rch p e below T153 (mkF m 4 #[.val (.ref a5), .val (.ref ca), .val (.int 0), .val (.int 2), .val .null, .unset] []) _
 refine w_iloadN (pc' := 5) X153 hx hby djdk42m149_4 rfl rfl ?_
 refine w_ifYes (pc' := 27) X153 hx hby djdk42m149_5 (XT.i0_ne_t (by decide)) (by decide) ?_
 obtain ⟨T154, X154, e154, st154⟩ := getS X153 hx hZ hown (host := "") (wi hw 36 rfl) Via.refl e153 (O2.ext Old0.2) (g := (mkF m 27 #[.val (.ref a5), .val (.ref ca), .val (.int 0), .val (.int 2), .val .null, .unset] [])) rfl (hb hby djdk42m149_27)
 refine Rch.st (fun _ k => st154 _ k) ?_
 show Rch p e below T154 (mkF m 30 #[.val (.ref a5), .val (.ref ca), .val (.int 0), .val (.int 2), .val .null, .unset] [(.int G1)]) _
 refine w_ifNo (pc' := 33) X154 hx hby djdk42m149_30 (XT.i0_eq_f (P5)) rfl ?_
 refine w_aloadN (pc' := 34) X154 hx hby djdk42m149_33 rfl rfl rfl ?_
 refine w_iloadN (pc' := 35) X154 hx hby djdk42m149_34 rfl rfl ?_
 refine w_iloadN (pc' := 36) X154 hx hby djdk42m149_35 rfl rfl ?_
 obtain ⟨_, _, ⟨T155, L155, k155, n155⟩, -, X155, ⟨Lc155, hQ155, l155, y155, z155⟩, st155⟩ := Jvm.LawKit.callS X154 hx (y := (⟨"java/lang/StringUTF16", "compress", "([CII)[B"⟩ : MethodName)) hown (mvT hZ (wi hw 73 rfl)) (mvT hZ (wi hw 74 rfl)) (mvT hZ (wi hw 75 rfl)) (mvT hZ (wi hw 76 rfl)) (by decide) (backOf (W := 0) (rm_cmp3_2 l Z a0 hw [] ca kc cc0 cc1 h0 n0 Z0 f5 (hg0) (hg1)) hZ (wi hw 76 rfl) (wi hw 75 rfl) (by decide) (by decide)) (g := (mkF m 36 #[.val (.ref a5), .val (.ref ca), .val (.int 0), .val (.int 2), .val .null, .unset] [(.int 2), (.int 0), (.ref ca)])) rfl (by rw [hml]; rfl) (argsL := [(.ref ca), (.int 0), (.int 2)]) (rest := []) (lenOf pd___CII__B rfl) rfl (by show 2 * 0 + _ ≤ _; exact Nat.le_of_eq rfl) (hb hby djdk42m149_36) (fun _ _ => ⟨rfl, e154, (by decide : 0 + 1 ≤ _), (by decide : 0 + 2 ≤ _)⟩)
 dsimp only [Pt.U, Pt.locs, Pt.cells, Pt.slots] at X155 l155 y155 z155 st155 hQ155
 subst l155 y155 z155
 obtain ⟨t_155, kt_155, rfl, NQ155, K155, pq155_0, fq155_0⟩ := hQ155
 have N156 := Fr.app N0 NQ155
 have ne157 := nlt f2.lt pq155_0
 have f160 := f2.keep K155
 have f161 := f3.keep K155 nin0
 have f162 := f4.keep K155 nin0
 have Kp165 : Keep h0 T155.heap [a5] := K00.trans K155 all0
 have Z166 := Nat.le_trans Z0 K155.1
 refine Rch.st (fun _ k => st155 _ k) ?_
 show Rch p e below T155 (mkF m 39 #[.val (.ref a5), .val (.ref ca), .val (.int 0), .val (.int 2), .val .null, .unset] [(.ref t_155)]) _
 refine w_astore (pc' := 41) (l' := #[.val (.ref a5), .val (.ref ca), .val (.int 0), .val (.int 2), .val .null, .val (.ref t_155)]) X155 hx hby djdk42m149_39 rfl rfl rfl ?_
 refine w_aloadN (pc' := 42) X155 hx hby djdk42m149_41 rfl rfl rfl ?_
 refine w_aload (pc' := 44) X155 hx hby djdk42m149_42 rfl rfl rfl ?_
 refine w_iloadN (pc' := 45) X155 hx hby djdk42m149_44 rfl rfl ?_
 obtain ⟨_, _, ⟨T167, L167, k167, n167⟩, -, X167, ⟨Lc167, hQ167, l167, y167, z167⟩, st167⟩ := Jvm.LawKit.callS X155 hx (y := (⟨"java/lang/StringUTF16", "coderFromArrayLen", "([BI)B"⟩ : MethodName)) hown (mvT hZ (wi hw 80 rfl)) (mvT hZ (wi hw 81 rfl)) (mvT hZ (wi hw 75 rfl)) (mvT hZ (wi hw 82 rfl)) (by decide) (backOf (W := 1) (rm_cfl l Z a0 hw [] t_155 kt_155 2 2 ([(.int (own_by cc0)), (.int (own_by cc1))]) (.int 0) T155.heap n0 Z166 fq155_0) hZ (wi hw 82 rfl) (wi hw 75 rfl) (by decide) (by decide)) (g := (mkF m 45 #[.val (.ref a5), .val (.ref ca), .val (.int 0), .val (.int 2), .val .null, .val (.ref t_155)] [(.int 2), (.ref t_155), (.ref a5)])) rfl (by rw [hml]; rfl) (argsL := [(.ref t_155), (.int 2)]) (rest := [(.ref a5)]) (lenOf pd___BI_B rfl) rfl (by show 2 * 0 + _ ≤ _; exact Nat.le_of_eq rfl) (hb hby djdk42m149_45) (fun _ _ => ⟨rfl, (rfl : T155.heap = T155.heap), (by decide : 1 + 0 ≤ _), (by decide : 2 + 0 ≤ _)⟩)
 dsimp only [Pt.U, Pt.locs, Pt.cells, Pt.slots] at X167 l167 y167 z167 st167 hQ167
 subst l167 y167 z167
 obtain ⟨rfl, NQ167, K167⟩ := hQ167
 have N168 := Fr.app N156 NQ167
 refine Rch.st (fun _ k => st167 _ k) ?_
 show Rch p e below T167 (mkF m 48 #[.val (.ref a5), .val (.ref ca), .val (.int 0), .val (.int 2), .val .null, .val (.ref t_155)] [(.int ((XT.ushr ((2 : Int32) - (2 : Int32)) (31 : Int32))).toInt8.toInt32), (.ref a5)]) _
 have r169 : ((XT.ushr ((2 : Int32) - (2 : Int32)) (31 : Int32))).toInt8.toInt32 = (0 : Int32) := by decide
 rw [r169]
 show Rch p e below T167 (mkF m 48 #[.val (.ref a5), .val (.ref ca), .val (.int 0), .val (.int 2), .val .null, .val (.ref t_155)] [(.int 0), (.ref a5)]) _
 obtain ⟨T170, h170, X170, e170, W170, st170⟩ := putF X167 hx hZ hown (host := "") (Or.inl (wi hw 37 rfl)) Via.refl K167 f161 f160 (Or.inr ⟨(wi hw 13 rfl), rfl, hnm⟩) (wi hw 10 rfl) (ty := .byte) (by decide) rfl rfl (g := (mkF m 48 #[.val (.ref a5), .val (.ref ca), .val (.int 0), .val (.int 2), .val .null, .val (.ref t_155)] [(.int 0), (.ref a5)])) rfl rfl (hb hby djdk42m149_48)
 have N171 := Fr.snoc X170 N168 ga
 have f172 := f160.wr W170
 have f173 := f161.same W170
 have f174 := f162.other W170 (Or.inr (slot_ne (t := (.array .byte)) (t' := .byte) (Or.inr (wi hw 12 rfl)) (Or.inr (wi hw 13 rfl)) (by decide) (by decide) (by decide)))
 have f176 := fq155_0.other W170 (Ne.symm ne157)
 have Kp179 : Keep h0 h170 [a5] := Kp165.wr W170 (Or.inl (List.mem_of_getElem? (i := 0) rfl))
 refine Rch.st (fun _ k => st170 _ k) ?_
 show Rch p e below T170 (mkF m 51 #[.val (.ref a5), .val (.ref ca), .val (.int 0), .val (.int 2), .val .null, .val (.ref t_155)] []) _
 refine w_aloadN (pc' := 52) X170 hx hby djdk42m149_51 rfl rfl rfl ?_
 refine w_aload (pc' := 54) X170 hx hby djdk42m149_52 rfl rfl rfl ?_
 obtain ⟨T180, h180, X180, e180, W180, st180⟩ := putF X170 hx hZ hown (host := "") (Or.inl (wi hw 30 rfl)) Via.refl e170 f174 f172 (Or.inr ⟨(wi hw 12 rfl), rfl, hnm⟩) (wi hw 10 rfl) (ty := (.array .byte)) (by decide) rfl rfl (g := (mkF m 54 #[.val (.ref a5), .val (.ref ca), .val (.int 0), .val (.int 2), .val .null, .val (.ref t_155)] [(.ref t_155), (.ref a5)])) rfl rfl (hb hby djdk42m149_54)
 have N181 := Fr.snoc X180 N171 ga
 have f183 := f173.other W180 (Or.inr (slot_ne (t := .byte) (t' := (.array .byte)) (Or.inr (wi hw 13 rfl)) (Or.inr (wi hw 12 rfl)) (by decide) (by decide) (by decide)))
 have f184 := f174.same W180
 have f186 := f176.other W180 (Ne.symm ne157)
 have Kp189 : Keep h0 h180 [a5] := Kp179.wr W180 (Or.inl (List.mem_of_getElem? (i := 0) rfl))
 refine Rch.st (fun _ k => st180 _ k) ?_
 show Rch p e below T180 (mkF m 57 #[.val (.ref a5), .val (.ref ca), .val (.int 0), .val (.int 2), .val .null, .val (.ref t_155)] []) _
 exact Rch.ret0 X180 hx Bd.returns (hb hby djdk42m149_57) (by rw [e180]; exact ⟨t_155, kt_155, rfl, N181, Kp189, (Nat.le_trans K00.1 pq155_0), f183, f184, f186⟩) (by decide) (by decide)

theorem ef_rm_init1_2 (m : MethodId) (G1 : Int32) (a5 : Addr) (ca : Addr) (kc : ClassId) (cc0 : Int32) (cc1 : Int32)  : entryFrame m #[(.ref a5), (.ref ca)] 2 = mkF m 0 #[.val (.ref a5), .val (.ref ca)] [] := by  first | (simp [entryFrame, mkF, argsToLocals, Value.category, maxLocals]; done) | rfl
def Q_rm_init1_2 (Z : State) (G1 : Int32) (a5 : Addr) (ca : Addr) (kc : ClassId) (cc0 : Int32) (cc1 : Int32) (h0 : Heap) (n0 : Nat) (v : Option Value) (h : Heap) (L : List Loc) : Prop := ∃ (t : Addr) (kt : ClassId), (v = none) ∧ (Fr n0 L) ∧ (Keep h0 h [a5]) ∧ (h0.size ≤ t) ∧ (Fld Z h a5 "java/lang/String" "coder" "B" (.int (0 : Int32))) ∧ (Fld Z h a5 "java/lang/String" "value" "[B" (.ref t)) ∧ (Arv Z h t kt .byte (2 : Int32) [(.int (own_by cc0)), (.int (own_by cc1))] (.int (0 : Int32)))
set_option maxRecDepth 65536 in
set_option maxHeartbeats 40000000 in
theorem rm_init1_2 (l : Launch) (Z : State) (a0 : Array Value) (hw : ∀ d ∈ tables_1, d.before a0 Z = true) (ws : List Jvm.Cond) (G1 : Int32) (a5 : Addr) (ca : Addr) (kc : ClassId) (cc0 : Int32) (cc1 : Int32) (h0 : Heap) (n0 : Nat) (Z0 : n0 ≤ h0.size) (O2 : Sta Z Z.heap "java/lang/String" "COMPACT_STRINGS" "Z" (.int G1)) (P5 : ¬ G1 = 0) (f2 : Exa Z h0 a5 "java/lang/String") (f3 : Fld Z h0 a5 "java/lang/String" "coder" "B" (.int (0 : Int32))) (f4 : Fld Z h0 a5 "java/lang/String" "value" "[B" .null) (f5 : Arv Z h0 ca kc .char (2 : Int32) [(.int cc0), (.int cc1)] (.int (0 : Int32))) (ga : n0 ≤ a5) (nca : a5 ≠ ca) (hg0 : ¬ (255 : Int32) < cc0) (hg1 : ¬ (255 : Int32) < cc1) (Old0 : OldL Z n0 h0) :
    MetFree l (⟨"java/lang/String", "<init>", "([C)V"⟩ : MethodName) (head1 (Jvm.Cond.code (⟨"java/lang/String", "<init>", "([C)V"⟩ : MethodName) jdk_42_method_3_code 2 none :: ws) ({ frames := 3, cells := 1, slots := 2, locals := 52 } : Room)) (fun a U => a = #[(.ref a5), (.ref ca)] ∧ Z.Warmed39 U.vm ∧ U.heap = h0) (fun _ _ _ _ _ => True) (fun _ U o U' => ∃ v L, o = .returned v ∧ Q_rm_init1_2 Z G1 a5 ca kc cc0 cc1 h0 n0 v U'.heap L ∧ FrameEnd U o U' L ({ frames := 3, cells := 1, slots := 2, locals := 52 } : Room).cells ({ frames := 3, cells := 1, slots := 2, locals := 52 } : Room).slots) := by
 refine MetFree.of_bodySF (plainFor_of_name pn_java_lang_String) hisR ?_
 intro p e s m args below meth c s₁ Bd hml0 hP hK
 obtain ⟨rfl, hZ, hh⟩ := hP
 have hx := Bd.exec
 have hby := Bd.bytes
 have hml : c.maxLocals = 2 := hml0
 have hown : s.vm.findClass "java/lang/String" = some m.cls := findClass_of_methodNamed Bd.named
 have hnm := (name_of_methodNamed Bd.named Bd.method).1
 have X0 : Stand p l e ({ frames := 3, cells := 1, slots := 2, locals := 52 } : Room) s m #[(.ref a5), (.ref ca)] below meth c s₁ [] 0 0 := Stand.of_body Bd
 have e0 : s₁.heap = h0 := by rw [← hh, Bd.state]; rfl
 have N0 := Fr.nil n0
 have K00 : Keep h0 h0 [a5] := Keep.refl _ _
 show Rch p e below s₁ (entryFrame m #[(.ref a5), (.ref ca)] 2) (FinP s (Q_rm_init1_2 Z G1 a5 ca kc cc0 cc1 h0 n0) 1 2)
 refine Rch.cast (ef_rm_init1_2 m G1 a5 ca kc cc0 cc1) ?_
 show Rch p e below s₁ (mkF m 0 #[.val (.ref a5), .val (.ref ca)] []) _
 refine w_aloadN (pc' := 1) X0 hx hby djdk42m3_0 rfl rfl rfl ?_
 refine w_aloadN (pc' := 2) X0 hx hby djdk42m3_1 rfl rfl rfl ?_
 refine w_iconst (pc' := 3) (v := 0) X0 hx hby djdk42m3_2 rfl rfl ?_
 refine w_aloadN (pc' := 4) X0 hx hby djdk42m3_3 rfl rfl rfl ?_
 refine Rch.st (fun _ k => own_alen X0 hx hZ e0 f5 rfl rfl (hb hby djdk42m3_4) k) ?_
 show Rch p e below s₁ (mkF m 5 #[.val (.ref a5), .val (.ref ca)] [(.int 2), (.int 0), (.ref ca), (.ref a5)]) _
 refine w_aconstNull (pc' := 6) X0 hx hby djdk42m3_5 rfl ?_
 obtain ⟨_, _, ⟨T190, L190, k190, n190⟩, -, X190, ⟨Lc190, hQ190, l190, y190, z190⟩, st190⟩ := X0.specialBack hx (y := (⟨"java/lang/String", "<init>", "([CIILjava/lang/Void;)V"⟩ : MethodName)) rfl hown (mvT hZ (wi hw 66 rfl)) (mvT hZ (wi hw 67 rfl)) (mvT hZ (wi hw 69 rfl)) (by decide) (backOf (W := 0) (rm_init4_2 l Z a0 hw [] G1 a5 ca kc cc0 cc1 h0 n0 Z0 (O2) (P5) f2 f3 f4 f5 (ga) (nca) (hg0) (hg1) Old0) hZ (wi hw 69 rfl) (wi hw 9 rfl) (by decide) (by decide)) (g := (mkF m 6 #[.val (.ref a5), .val (.ref ca)] [.null, (.int 2), (.int 0), (.ref ca), (.ref a5)])) rfl (by rw [hml]; rfl) (Steps.refl _) (a := a5) (argsL := [(.ref ca), (.int 0), (.int 2), .null]) (rest := []) (lenOf pd___CIILjava_lang_Void__V rfl) rfl (by show 2 * 0 + _ ≤ _; exact Nat.le_of_eq rfl) (hb hby djdk42m3_6) (fun _ _ => ⟨rfl, e0, (by decide : 0 + 1 ≤ _), (by decide : 0 + 2 ≤ _)⟩)
 dsimp only [Pt.U, Pt.locs, Pt.cells, Pt.slots] at X190 l190 y190 z190 st190 hQ190
 subst l190 y190 z190
 obtain ⟨t_190, kt_190, rfl, NQ190, K190, pq190_0, fq190_0, fq190_1, fq190_2⟩ := hQ190
 have N191 := Fr.app N0 NQ190
 have Kp198 : Keep h0 T190.heap [a5] := K00.trans K190 (allS (Or.inl (List.mem_of_getElem? (i := 0) rfl)) all0)
 refine Rch.st (fun _ k => st190.trans k) ?_
 show Rch p e below T190 (mkF m 9 #[.val (.ref a5), .val (.ref ca)] []) _
 exact Rch.ret0 X190 hx Bd.returns (hb hby djdk42m3_9) (by rw [(rfl : T190.heap = T190.heap)]; exact ⟨t_190, kt_190, rfl, N191, Kp198, (Nat.le_trans K00.1 pq190_0), fq190_0, fq190_1, fq190_2⟩) (by decide) (by decide)

theorem ef_rm_cmp5_3 (m : MethodId) (ca : Addr) (kc : ClassId) (bd : Addr) (kd : ClassId) (cc0 : Int32) (cc1 : Int32) (cc2 : Int32)  : entryFrame m #[(.ref ca), (.int (0 : Int32)), (.ref bd), (.int (0 : Int32)), (.int (3 : Int32))] 7 = mkF m 0 #[.val (.ref ca), .val (.int (0 : Int32)), .val (.ref bd), .val (.int (0 : Int32)), .val (.int (3 : Int32)), .unset, .unset] [] := by  first | (simp [entryFrame, mkF, argsToLocals, Value.category, maxLocals]; done) | rfl
def Q_rm_cmp5_3 (Z : State) (ca : Addr) (kc : ClassId) (bd : Addr) (kd : ClassId) (cc0 : Int32) (cc1 : Int32) (cc2 : Int32) (h0 : Heap) (n0 : Nat) (v : Option Value) (h : Heap) (L : List Loc) : Prop := (v = some (.int (3 : Int32))) ∧ (Fr n0 L) ∧ (Keep h0 h [bd]) ∧ (Arv Z h bd kd .byte (3 : Int32) [(.int (own_by cc0)), (.int (own_by cc1)), (.int (own_by cc2))] (.int (0 : Int32)))
set_option maxRecDepth 65536 in
set_option maxHeartbeats 40000000 in
theorem rm_cmp5_3 (l : Launch) (Z : State) (a0 : Array Value) (hw : ∀ d ∈ tables_1, d.before a0 Z = true) (ws : List Jvm.Cond) (ca : Addr) (kc : ClassId) (bd : Addr) (kd : ClassId) (cc0 : Int32) (cc1 : Int32) (cc2 : Int32) (h0 : Heap) (n0 : Nat) (Z0 : n0 ≤ h0.size) (f0 : Arv Z h0 ca kc .char (3 : Int32) [(.int cc0), (.int cc1), (.int cc2)] (.int (0 : Int32))) (f1 : Arv Z h0 bd kd .byte (3 : Int32) [(.int (0 : Int32)), (.int (0 : Int32)), (.int (0 : Int32))] (.int (0 : Int32))) (gd : n0 ≤ bd) (ncd : ca ≠ bd) (hg0 : ¬ (255 : Int32) < cc0) (hg1 : ¬ (255 : Int32) < cc1) (hg2 : ¬ (255 : Int32) < cc2) :
    MetFree l (⟨"java/lang/StringUTF16", "compress", "([CI[BII)I"⟩ : MethodName) (head1 (Jvm.Cond.code (⟨"java/lang/StringUTF16", "compress", "([CI[BII)I"⟩ : MethodName) jdk_52_method_21_code 7 (some .int) :: ws) ({ frames := 0, cells := 0, slots := 0, locals := 0 } : Room)) (fun a U => a = #[(.ref ca), (.int (0 : Int32)), (.ref bd), (.int (0 : Int32)), (.int (3 : Int32))] ∧ Z.Warmed39 U.vm ∧ U.heap = h0) (fun _ _ _ _ _ => True) (fun _ U o U' => ∃ v L, o = .returned v ∧ Q_rm_cmp5_3 Z ca kc bd kd cc0 cc1 cc2 h0 n0 v U'.heap L ∧ FrameEnd U o U' L ({ frames := 0, cells := 0, slots := 0, locals := 0 } : Room).cells ({ frames := 0, cells := 0, slots := 0, locals := 0 } : Room).slots) := by
 refine MetFree.of_bodySF (plainFor_of_name pn_java_lang_StringUTF16) hisR ?_
 intro p e s m args below meth c s₁ Bd hml0 hP hK
 obtain ⟨rfl, hZ, hh⟩ := hP
 have hx := Bd.exec
 have hby := Bd.bytes
 have hml : c.maxLocals = 7 := hml0
 have hown : s.vm.findClass "java/lang/StringUTF16" = some m.cls := findClass_of_methodNamed Bd.named
 have hnm := (name_of_methodNamed Bd.named Bd.method).1
 have X0 : Stand p l e ({ frames := 0, cells := 0, slots := 0, locals := 0 } : Room) s m #[(.ref ca), (.int (0 : Int32)), (.ref bd), (.int (0 : Int32)), (.int (3 : Int32))] below meth c s₁ [] 0 0 := Stand.of_body Bd
 have e0 : s₁.heap = h0 := by rw [← hh, Bd.state]; rfl
 have N0 := Fr.nil n0
 have K00 : Keep h0 h0 [bd] := Keep.refl _ _
 show Rch p e below s₁ (entryFrame m #[(.ref ca), (.int (0 : Int32)), (.ref bd), (.int (0 : Int32)), (.int (3 : Int32))] 7) (FinP s (Q_rm_cmp5_3 Z ca kc bd kd cc0 cc1 cc2 h0 n0) 0 0)
 refine Rch.cast (ef_rm_cmp5_3 m ca kc bd kd cc0 cc1 cc2) ?_
 show Rch p e below s₁ (mkF m 0 #[.val (.ref ca), .val (.int 0), .val (.ref bd), .val (.int 0), .val (.int 3), .unset, .unset] []) _
 refine w_iconst (pc' := 1) (v := 0) X0 hx hby djdk52m21_0 rfl rfl ?_
 refine w_istore (pc' := 3) (l' := #[.val (.ref ca), .val (.int 0), .val (.ref bd), .val (.int 0), .val (.int 3), .val (.int 0), .unset]) X0 hx hby djdk52m21_1 rfl rfl ?_
 refine w_iload (pc' := 5) X0 hx hby djdk52m21_3 rfl rfl ?_
 refine w_iload (pc' := 7) X0 hx hby djdk52m21_5 rfl rfl ?_
 refine w_icmpNo (pc' := 10) X0 hx hby djdk52m21_7 (XT.ii_ge_f (by decide)) rfl ?_
 refine w_aloadN (pc' := 11) X0 hx hby djdk52m21_10 rfl rfl rfl ?_
 refine w_iloadN (pc' := 12) X0 hx hby djdk52m21_11 rfl rfl ?_
 refine Rch.st (fun _ k => own_ldC X0 hx hZ e0 f0 (j := (0 : Int32)) ⟨by decide, by decide⟩ (by rfl) rfl rfl (hb hby djdk52m21_12) k) ?_
 show Rch p e below s₁ (mkF m 13 #[.val (.ref ca), .val (.int 0), .val (.ref bd), .val (.int 0), .val (.int 3), .val (.int 0), .unset] [(.int cc0)]) _
 refine w_istore (pc' := 15) (l' := #[.val (.ref ca), .val (.int 0), .val (.ref bd), .val (.int 0), .val (.int 3), .val (.int 0), .val (.int cc0)]) X0 hx hby djdk52m21_13 rfl rfl ?_
 refine w_iload (pc' := 17) X0 hx hby djdk52m21_15 rfl rfl ?_
 refine w_sipush (pc' := 20) (v := 255) X0 hx hby djdk52m21_17 rfl rfl ?_
 refine w_icmpYes (pc' := 26) X0 hx hby djdk52m21_20 (XT.ii_le_t (hg0)) (by decide) ?_
 refine w_aloadN (pc' := 27) X0 hx hby djdk52m21_26 rfl rfl rfl ?_
 refine w_iloadN (pc' := 28) X0 hx hby djdk52m21_27 rfl rfl ?_
 refine w_iload (pc' := 30) X0 hx hby djdk52m21_28 rfl rfl ?_
 refine w_i2b (pc' := 31) X0 hx hby djdk52m21_30 rfl ?_
 obtain ⟨T200, h200, X200, e200, W200, V200, st200⟩ := own_stB X0 hx hZ e0 f1 (j := (0 : Int32)) ⟨by decide, by decide⟩ 0 (by decide) (by decide : 0 < 3) (g := (mkF m 31 #[.val (.ref ca), .val (.int 0), .val (.ref bd), .val (.int 0), .val (.int 3), .val (.int 0), .val (.int cc0)] [(.int (cc0).toInt8.toInt32), (.int 0), (.ref bd)])) rfl rfl (hb hby djdk52m21_31)
 have N201 := Fr.snoc X200 N0 gd
 have f202 := f0.other W200 ncd
 have Kp204 : Keep h0 h200 [bd] := K00.wr W200 (Or.inl (List.mem_of_getElem? (i := 0) rfl))
 have f205 : Arv Z h200 bd kd .byte (3 : Int32) [(.int ((cc0).toInt8.toInt32).toInt8.toInt32), (.int (0 : Int32)), (.int (0 : Int32))] (.int (0 : Int32)) := V200
 refine Rch.st (fun _ k => st200 _ k) ?_
 show Rch p e below T200 (mkF m 32 #[.val (.ref ca), .val (.int 0), .val (.ref bd), .val (.int 0), .val (.int 3), .val (.int 0), .val (.int cc0)] []) _
 refine w_iinc (pc' := 35) (w := (1 : Int32)) (l' := #[.val (.ref ca), .val (.int (1 : Int32)), .val (.ref bd), .val (.int (0 : Int32)), .val (.int (3 : Int32)), .val (.int (0 : Int32)), .val (.int cc0)]) X200 hx hby djdk52m21_32 rfl (by decide) rfl rfl ?_
 refine w_iinc (pc' := 38) (w := (1 : Int32)) (l' := #[.val (.ref ca), .val (.int (1 : Int32)), .val (.ref bd), .val (.int (1 : Int32)), .val (.int (3 : Int32)), .val (.int (0 : Int32)), .val (.int cc0)]) X200 hx hby djdk52m21_35 rfl (by decide) rfl rfl ?_
 refine w_iinc (pc' := 41) (w := (1 : Int32)) (l' := #[.val (.ref ca), .val (.int (1 : Int32)), .val (.ref bd), .val (.int (1 : Int32)), .val (.int (3 : Int32)), .val (.int (1 : Int32)), .val (.int cc0)]) X200 hx hby djdk52m21_38 rfl (by decide) rfl rfl ?_
 refine w_goto (pc' := 3) X200 hx hby djdk52m21_41 (by decide) ?_
 refine w_iload (pc' := 5) X200 hx hby djdk52m21_3 rfl rfl ?_
 refine w_iload (pc' := 7) X200 hx hby djdk52m21_5 rfl rfl ?_
 refine w_icmpNo (pc' := 10) X200 hx hby djdk52m21_7 (XT.ii_ge_f (by decide)) rfl ?_
 refine w_aloadN (pc' := 11) X200 hx hby djdk52m21_10 rfl rfl rfl ?_
 refine w_iloadN (pc' := 12) X200 hx hby djdk52m21_11 rfl rfl ?_
 refine Rch.st (fun _ k => own_ldC X200 hx hZ e200 f202 (j := (1 : Int32)) ⟨by decide, by decide⟩ (by rfl) rfl rfl (hb hby djdk52m21_12) k) ?_
 show Rch p e below T200 (mkF m 13 #[.val (.ref ca), .val (.int 1), .val (.ref bd), .val (.int 1), .val (.int 3), .val (.int 1), .val (.int cc0)] [(.int cc1)]) _
 refine w_istore (pc' := 15) (l' := #[.val (.ref ca), .val (.int 1), .val (.ref bd), .val (.int 1), .val (.int 3), .val (.int 1), .val (.int cc1)]) X200 hx hby djdk52m21_13 rfl rfl ?_
 refine w_iload (pc' := 17) X200 hx hby djdk52m21_15 rfl rfl ?_
 refine w_sipush (pc' := 20) (v := 255) X200 hx hby djdk52m21_17 rfl rfl ?_
 refine w_icmpYes (pc' := 26) X200 hx hby djdk52m21_20 (XT.ii_le_t (hg1)) (by decide) ?_
 refine w_aloadN (pc' := 27) X200 hx hby djdk52m21_26 rfl rfl rfl ?_
 refine w_iloadN (pc' := 28) X200 hx hby djdk52m21_27 rfl rfl ?_
 refine w_iload (pc' := 30) X200 hx hby djdk52m21_28 rfl rfl ?_
 refine w_i2b (pc' := 31) X200 hx hby djdk52m21_30 rfl ?_
 obtain ⟨T206, h206, X206, e206, W206, V206, st206⟩ := own_stB X200 hx hZ e200 f205 (j := (1 : Int32)) ⟨by decide, by decide⟩ 1 (by decide) (by decide : 1 < 3) (g := (mkF m 31 #[.val (.ref ca), .val (.int 1), .val (.ref bd), .val (.int 1), .val (.int 3), .val (.int 1), .val (.int cc1)] [(.int (cc1).toInt8.toInt32), (.int 1), (.ref bd)])) rfl rfl (hb hby djdk52m21_31)
 have N207 := Fr.snoc X206 N201 gd
 have f208 := f202.other W206 ncd
 have Kp210 : Keep h0 h206 [bd] := Kp204.wr W206 (Or.inl (List.mem_of_getElem? (i := 0) rfl))
 have f211 : Arv Z h206 bd kd .byte (3 : Int32) [(.int ((cc0).toInt8.toInt32).toInt8.toInt32), (.int ((cc1).toInt8.toInt32).toInt8.toInt32), (.int (0 : Int32))] (.int (0 : Int32)) := V206
 refine Rch.st (fun _ k => st206 _ k) ?_
 show Rch p e below T206 (mkF m 32 #[.val (.ref ca), .val (.int 1), .val (.ref bd), .val (.int 1), .val (.int 3), .val (.int 1), .val (.int cc1)] []) _
 refine w_iinc (pc' := 35) (w := (2 : Int32)) (l' := #[.val (.ref ca), .val (.int (2 : Int32)), .val (.ref bd), .val (.int (1 : Int32)), .val (.int (3 : Int32)), .val (.int (1 : Int32)), .val (.int cc1)]) X206 hx hby djdk52m21_32 rfl (by decide) rfl rfl ?_
 refine w_iinc (pc' := 38) (w := (2 : Int32)) (l' := #[.val (.ref ca), .val (.int (2 : Int32)), .val (.ref bd), .val (.int (2 : Int32)), .val (.int (3 : Int32)), .val (.int (1 : Int32)), .val (.int cc1)]) X206 hx hby djdk52m21_35 rfl (by decide) rfl rfl ?_
 refine w_iinc (pc' := 41) (w := (2 : Int32)) (l' := #[.val (.ref ca), .val (.int (2 : Int32)), .val (.ref bd), .val (.int (2 : Int32)), .val (.int (3 : Int32)), .val (.int (2 : Int32)), .val (.int cc1)]) X206 hx hby djdk52m21_38 rfl (by decide) rfl rfl ?_
 refine w_goto (pc' := 3) X206 hx hby djdk52m21_41 (by decide) ?_
 refine w_iload (pc' := 5) X206 hx hby djdk52m21_3 rfl rfl ?_
 refine w_iload (pc' := 7) X206 hx hby djdk52m21_5 rfl rfl ?_
 refine w_icmpNo (pc' := 10) X206 hx hby djdk52m21_7 (XT.ii_ge_f (by decide)) rfl ?_
 refine w_aloadN (pc' := 11) X206 hx hby djdk52m21_10 rfl rfl rfl ?_
 refine w_iloadN (pc' := 12) X206 hx hby djdk52m21_11 rfl rfl ?_
 refine Rch.st (fun _ k => own_ldC X206 hx hZ e206 f208 (j := (2 : Int32)) ⟨by decide, by decide⟩ (by rfl) rfl rfl (hb hby djdk52m21_12) k) ?_
 show Rch p e below T206 (mkF m 13 #[.val (.ref ca), .val (.int 2), .val (.ref bd), .val (.int 2), .val (.int 3), .val (.int 2), .val (.int cc1)] [(.int cc2)]) _
 refine w_istore (pc' := 15) (l' := #[.val (.ref ca), .val (.int 2), .val (.ref bd), .val (.int 2), .val (.int 3), .val (.int 2), .val (.int cc2)]) X206 hx hby djdk52m21_13 rfl rfl ?_
 refine w_iload (pc' := 17) X206 hx hby djdk52m21_15 rfl rfl ?_
 refine w_sipush (pc' := 20) (v := 255) X206 hx hby djdk52m21_17 rfl rfl ?_
 refine w_icmpYes (pc' := 26) X206 hx hby djdk52m21_20 (XT.ii_le_t (hg2)) (by decide) ?_
 refine w_aloadN (pc' := 27) X206 hx hby djdk52m21_26 rfl rfl rfl ?_
 refine w_iloadN (pc' := 28) X206 hx hby djdk52m21_27 rfl rfl ?_
 refine w_iload (pc' := 30) X206 hx hby djdk52m21_28 rfl rfl ?_
 refine w_i2b (pc' := 31) X206 hx hby djdk52m21_30 rfl ?_
 obtain ⟨T212, h212, X212, e212, W212, V212, st212⟩ := own_stB X206 hx hZ e206 f211 (j := (2 : Int32)) ⟨by decide, by decide⟩ 2 (by decide) (by decide : 2 < 3) (g := (mkF m 31 #[.val (.ref ca), .val (.int 2), .val (.ref bd), .val (.int 2), .val (.int 3), .val (.int 2), .val (.int cc2)] [(.int (cc2).toInt8.toInt32), (.int 2), (.ref bd)])) rfl rfl (hb hby djdk52m21_31)
 have N213 := Fr.snoc X212 N207 gd
 have Kp216 : Keep h0 h212 [bd] := Kp210.wr W212 (Or.inl (List.mem_of_getElem? (i := 0) rfl))
 have f217 : Arv Z h212 bd kd .byte (3 : Int32) [(.int ((cc0).toInt8.toInt32).toInt8.toInt32), (.int ((cc1).toInt8.toInt32).toInt8.toInt32), (.int ((cc2).toInt8.toInt32).toInt8.toInt32)] (.int (0 : Int32)) := V212
 refine Rch.st (fun _ k => st212 _ k) ?_
 show Rch p e below T212 (mkF m 32 #[.val (.ref ca), .val (.int 2), .val (.ref bd), .val (.int 2), .val (.int 3), .val (.int 2), .val (.int cc2)] []) _
 refine w_iinc (pc' := 35) (w := (3 : Int32)) (l' := #[.val (.ref ca), .val (.int (3 : Int32)), .val (.ref bd), .val (.int (2 : Int32)), .val (.int (3 : Int32)), .val (.int (2 : Int32)), .val (.int cc2)]) X212 hx hby djdk52m21_32 rfl (by decide) rfl rfl ?_
 refine w_iinc (pc' := 38) (w := (3 : Int32)) (l' := #[.val (.ref ca), .val (.int (3 : Int32)), .val (.ref bd), .val (.int (3 : Int32)), .val (.int (3 : Int32)), .val (.int (2 : Int32)), .val (.int cc2)]) X212 hx hby djdk52m21_35 rfl (by decide) rfl rfl ?_
 refine w_iinc (pc' := 41) (w := (3 : Int32)) (l' := #[.val (.ref ca), .val (.int (3 : Int32)), .val (.ref bd), .val (.int (3 : Int32)), .val (.int (3 : Int32)), .val (.int (3 : Int32)), .val (.int cc2)]) X212 hx hby djdk52m21_38 rfl (by decide) rfl rfl ?_
 refine w_goto (pc' := 3) X212 hx hby djdk52m21_41 (by decide) ?_
 refine w_iload (pc' := 5) X212 hx hby djdk52m21_3 rfl rfl ?_
 refine w_iload (pc' := 7) X212 hx hby djdk52m21_5 rfl rfl ?_
 refine w_icmpYes (pc' := 44) X212 hx hby djdk52m21_7 (XT.ii_ge_t (by decide)) (by decide) ?_
 refine w_iload (pc' := 46) X212 hx hby djdk52m21_44 rfl rfl ?_
 exact Rch.retV X212 hx Bd.returns rfl (Or.inl ⟨rfl, by simp, _, rfl⟩) (hb hby djdk52m21_46) (by rw [e212]; exact ⟨rfl, N213, Kp216, f217⟩) (by decide) (by decide)

theorem ef_rm_cmp3_3 (m : MethodId) (ca : Addr) (kc : ClassId) (cc0 : Int32) (cc1 : Int32) (cc2 : Int32)  : entryFrame m #[(.ref ca), (.int (0 : Int32)), (.int (3 : Int32))] 6 = mkF m 0 #[.val (.ref ca), .val (.int (0 : Int32)), .val (.int (3 : Int32)), .unset, .unset, .unset] [] := by  first | (simp [entryFrame, mkF, argsToLocals, Value.category, maxLocals]; done) | rfl
def Q_rm_cmp3_3 (Z : State) (ca : Addr) (kc : ClassId) (cc0 : Int32) (cc1 : Int32) (cc2 : Int32) (h0 : Heap) (n0 : Nat) (v : Option Value) (h : Heap) (L : List Loc) : Prop := ∃ (t : Addr) (kt : ClassId), (v = some (.ref t)) ∧ (Fr n0 L) ∧ (Keep h0 h []) ∧ (h0.size ≤ t) ∧ (Arv Z h t kt .byte (3 : Int32) [(.int (own_by cc0)), (.int (own_by cc1)), (.int (own_by cc2))] (.int (0 : Int32)))
set_option maxRecDepth 65536 in
set_option maxHeartbeats 40000000 in
theorem rm_cmp3_3 (l : Launch) (Z : State) (a0 : Array Value) (hw : ∀ d ∈ tables_1, d.before a0 Z = true) (ws : List Jvm.Cond) (ca : Addr) (kc : ClassId) (cc0 : Int32) (cc1 : Int32) (cc2 : Int32) (h0 : Heap) (n0 : Nat) (Z0 : n0 ≤ h0.size) (f0 : Arv Z h0 ca kc .char (3 : Int32) [(.int cc0), (.int cc1), (.int cc2)] (.int (0 : Int32))) (hg0 : ¬ (255 : Int32) < cc0) (hg1 : ¬ (255 : Int32) < cc1) (hg2 : ¬ (255 : Int32) < cc2) :
    MetFree l (⟨"java/lang/StringUTF16", "compress", "([CII)[B"⟩ : MethodName) (head1 (Jvm.Cond.code (⟨"java/lang/StringUTF16", "compress", "([CII)[B"⟩ : MethodName) jdk_52_method_16_code 6 (some (.array .byte)) :: ws) ({ frames := 1, cells := 1, slots := 3, locals := 18 } : Room)) (fun a U => a = #[(.ref ca), (.int (0 : Int32)), (.int (3 : Int32))] ∧ Z.Warmed39 U.vm ∧ U.heap = h0) (fun _ _ _ _ _ => True) (fun _ U o U' => ∃ v L, o = .returned v ∧ Q_rm_cmp3_3 Z ca kc cc0 cc1 cc2 h0 n0 v U'.heap L ∧ FrameEnd U o U' L ({ frames := 1, cells := 1, slots := 3, locals := 18 } : Room).cells ({ frames := 1, cells := 1, slots := 3, locals := 18 } : Room).slots) := by
 refine MetFree.of_bodySF (plainFor_of_name pn_java_lang_StringUTF16) hisR ?_
 intro p e s m args below meth c s₁ Bd hml0 hP hK
 obtain ⟨rfl, hZ, hh⟩ := hP
 have hx := Bd.exec
 have hby := Bd.bytes
 have hml : c.maxLocals = 6 := hml0
 have hown : s.vm.findClass "java/lang/StringUTF16" = some m.cls := findClass_of_methodNamed Bd.named
 have hnm := (name_of_methodNamed Bd.named Bd.method).1
 have X0 : Stand p l e ({ frames := 1, cells := 1, slots := 3, locals := 18 } : Room) s m #[(.ref ca), (.int (0 : Int32)), (.int (3 : Int32))] below meth c s₁ [] 0 0 := Stand.of_body Bd
 have e0 : s₁.heap = h0 := by rw [← hh, Bd.state]; rfl
 have N0 := Fr.nil n0
 have K00 : Keep h0 h0 [] := Keep.refl _ _
 show Rch p e below s₁ (entryFrame m #[(.ref ca), (.int (0 : Int32)), (.int (3 : Int32))] 6) (FinP s (Q_rm_cmp3_3 Z ca kc cc0 cc1 cc2 h0 n0) 1 3)
 refine Rch.cast (ef_rm_cmp3_3 m ca kc cc0 cc1 cc2) ?_
 show Rch p e below s₁ (mkF m 0 #[.val (.ref ca), .val (.int 0), .val (.int 3), .unset, .unset, .unset] []) _
 refine w_iloadN (pc' := 1) X0 hx hby djdk52m16_0 rfl rfl ?_
 obtain ⟨T218, h218, kc218, X218, e218, E218, A218, st218⟩ := newP X0 hx hZ (wi hw 11 rfl) e0 (g := (mkF m 1 #[.val (.ref ca), .val (.int 0), .val (.int 3), .unset, .unset, .unset] [(.int 3)])) rfl (hb hby djdk52m16_1) rfl (by decide : ¬ ((3 : Int32) < (0 : Int32))) (cap := 3) (by decide : (3 : Int32).toNatClampNeg ≤ 3) (by decide) (by decide) (by decide)
 obtain ⟨a218, g218⟩ : ∃ z, z = h0.size := ⟨_, rfl⟩
 rw [← g218] at A218 st218
 have ne219 : ca ≠ a218 := by rw [g218]; exact Nat.ne_of_lt f0.lt
 have ge220 : n0 ≤ a218 := Nat.le_trans Z0 (Nat.le_of_eq g218.symm)
 have f222 := f0.ext E218
 have Z223 := Nat.le_trans Z0 E218.1
 have Kp224 : Keep h0 h218 [] := K00.ext E218
 have f225 : Arv Z h218 a218 kc218 .byte (3 : Int32) [(.int (0 : Int32)), (.int (0 : Int32)), (.int (0 : Int32))] (.int (0 : Int32)) := (Arv.new A218 (by decide : ¬ ((3 : Int32) < (0 : Int32)))).pad (pad_rep [] (.int (0 : Int32)) 3)
 refine Rch.st (fun _ k => st218 _ k) ?_
 show Rch p e below T218 (mkF m 3 #[.val (.ref ca), .val (.int 0), .val (.int 3), .unset, .unset, .unset] [(.ref a218)]) _
 refine w_astoreN (pc' := 4) (l' := #[.val (.ref ca), .val (.int 0), .val (.int 3), .val (.ref a218), .unset, .unset]) X218 hx hby djdk52m16_3 rfl rfl rfl ?_
 refine w_aloadN (pc' := 5) X218 hx hby djdk52m16_4 rfl rfl rfl ?_
 refine w_iloadN (pc' := 6) X218 hx hby djdk52m16_5 rfl rfl ?_
 refine w_aloadN (pc' := 7) X218 hx hby djdk52m16_6 rfl rfl rfl ?_
 refine w_iconst (pc' := 8) (v := 0) X218 hx hby djdk52m16_7 rfl rfl ?_
 refine w_iloadN (pc' := 9) X218 hx hby djdk52m16_8 rfl rfl ?_
 obtain ⟨_, _, ⟨T226, L226, k226, n226⟩, -, X226, ⟨Lc226, hQ226, l226, y226, z226⟩, st226⟩ := Jvm.LawKit.callS X218 hx (y := (⟨"java/lang/StringUTF16", "compress", "([CI[BII)I"⟩ : MethodName)) hown (mvT hZ (wi hw 77 rfl)) (mvT hZ (wi hw 78 rfl)) (mvT hZ (wi hw 75 rfl)) (mvT hZ (wi hw 79 rfl)) (by decide) (backOf (W := 0) (rm_cmp5_3 l Z a0 hw [] ca kc a218 kc218 cc0 cc1 cc2 h218 n0 Z223 f222 f225 (ge220) (ne219) (hg0) (hg1) (hg2)) hZ (wi hw 79 rfl) (wi hw 75 rfl) (by decide) (by decide)) (g := (mkF m 9 #[.val (.ref ca), .val (.int 0), .val (.int 3), .val (.ref a218), .unset, .unset] [(.int 3), (.int 0), (.ref a218), (.int 0), (.ref ca)])) rfl (by rw [hml]; rfl) (argsL := [(.ref ca), (.int 0), (.ref a218), (.int 0), (.int 3)]) (rest := []) (lenOf pd___CI_BII_I rfl) rfl (by show 2 * 0 + _ ≤ _; exact Nat.le_of_eq rfl) (hb hby djdk52m16_9) (fun _ _ => ⟨rfl, e218, (by decide : 1 + 0 ≤ _), (by decide : 3 + 0 ≤ _)⟩)
 dsimp only [Pt.U, Pt.locs, Pt.cells, Pt.slots] at X226 l226 y226 z226 st226 hQ226
 subst l226 y226 z226
 obtain ⟨rfl, NQ226, K226, fq226_0⟩ := hQ226
 have N227 := Fr.app N0 NQ226
 have Kp229 : Keep h0 T226.heap [] := Kp224.trans K226 (allS (Or.inr (Nat.le_trans K00.1 (Nat.le_of_eq g218.symm))) all0)
 refine Rch.st (fun _ k => st226 _ k) ?_
 show Rch p e below T226 (mkF m 12 #[.val (.ref ca), .val (.int 0), .val (.int 3), .val (.ref a218), .unset, .unset] [(.int 3)]) _
 refine w_istore (pc' := 14) (l' := #[.val (.ref ca), .val (.int 0), .val (.int 3), .val (.ref a218), .val (.int 3), .unset]) X226 hx hby djdk52m16_12 rfl rfl ?_
 refine w_iload (pc' := 16) X226 hx hby djdk52m16_14 rfl rfl ?_
 refine w_iloadN (pc' := 17) X226 hx hby djdk52m16_16 rfl rfl ?_
 refine w_icmpYes (pc' := 57) X226 hx hby djdk52m16_17 (XT.ii_eq_t (rfl)) (by decide) ?_
 refine w_aloadN (pc' := 58) X226 hx hby djdk52m16_57 rfl rfl rfl ?_
 exact Rch.retV X226 hx Bd.returns rfl (Or.inr (Or.inr (Or.inr (Or.inr ⟨rfl, rfl, rfl⟩)))) (hb hby djdk52m16_58) (by rw [(rfl : T226.heap = T226.heap)]; exact ⟨a218, kc218, rfl, N227, Kp229, (Nat.le_trans K00.1 (Nat.le_of_eq g218.symm)), fq226_0⟩) (by decide) (by decide)

theorem ef_rm_init4_3 (m : MethodId) (G1 : Int32) (a5 : Addr) (ca : Addr) (kc : ClassId) (cc0 : Int32) (cc1 : Int32) (cc2 : Int32)  : entryFrame m #[(.ref a5), (.ref ca), (.int (0 : Int32)), (.int (3 : Int32)), .null] 6 = mkF m 0 #[.val (.ref a5), .val (.ref ca), .val (.int (0 : Int32)), .val (.int (3 : Int32)), .val .null, .unset] [] := by  first | (simp [entryFrame, mkF, argsToLocals, Value.category, maxLocals]; done) | rfl
def Q_rm_init4_3 (Z : State) (G1 : Int32) (a5 : Addr) (ca : Addr) (kc : ClassId) (cc0 : Int32) (cc1 : Int32) (cc2 : Int32) (h0 : Heap) (n0 : Nat) (v : Option Value) (h : Heap) (L : List Loc) : Prop := ∃ (t : Addr) (kt : ClassId), (v = none) ∧ (Fr n0 L) ∧ (Keep h0 h [a5]) ∧ (h0.size ≤ t) ∧ (Fld Z h a5 "java/lang/String" "coder" "B" (.int (0 : Int32))) ∧ (Fld Z h a5 "java/lang/String" "value" "[B" (.ref t)) ∧ (Arv Z h t kt .byte (3 : Int32) [(.int (own_by cc0)), (.int (own_by cc1)), (.int (own_by cc2))] (.int (0 : Int32)))
set_option maxRecDepth 65536 in
set_option maxHeartbeats 40000000 in
theorem rm_init4_3 (l : Launch) (Z : State) (a0 : Array Value) (hw : ∀ d ∈ tables_1, d.before a0 Z = true) (ws : List Jvm.Cond) (G1 : Int32) (a5 : Addr) (ca : Addr) (kc : ClassId) (cc0 : Int32) (cc1 : Int32) (cc2 : Int32) (h0 : Heap) (n0 : Nat) (Z0 : n0 ≤ h0.size) (O2 : Sta Z Z.heap "java/lang/String" "COMPACT_STRINGS" "Z" (.int G1)) (P5 : ¬ G1 = 0) (f2 : Exa Z h0 a5 "java/lang/String") (f3 : Fld Z h0 a5 "java/lang/String" "coder" "B" (.int (0 : Int32))) (f4 : Fld Z h0 a5 "java/lang/String" "value" "[B" .null) (f5 : Arv Z h0 ca kc .char (3 : Int32) [(.int cc0), (.int cc1), (.int cc2)] (.int (0 : Int32))) (ga : n0 ≤ a5) (nca : a5 ≠ ca) (hg0 : ¬ (255 : Int32) < cc0) (hg1 : ¬ (255 : Int32) < cc1) (hg2 : ¬ (255 : Int32) < cc2) (Old0 : OldL Z n0 h0) :
    MetFree l (⟨"java/lang/String", "<init>", "([CIILjava/lang/Void;)V"⟩ : MethodName) (head1 (Jvm.Cond.code (⟨"java/lang/String", "<init>", "([CIILjava/lang/Void;)V"⟩ : MethodName) jdk_42_method_149_code 6 none :: ws) ({ frames := 2, cells := 1, slots := 3, locals := 35 } : Room)) (fun a U => a = #[(.ref a5), (.ref ca), (.int (0 : Int32)), (.int (3 : Int32)), .null] ∧ Z.Warmed39 U.vm ∧ U.heap = h0) (fun _ _ _ _ _ => True) (fun _ U o U' => ∃ v L, o = .returned v ∧ Q_rm_init4_3 Z G1 a5 ca kc cc0 cc1 cc2 h0 n0 v U'.heap L ∧ FrameEnd U o U' L ({ frames := 2, cells := 1, slots := 3, locals := 35 } : Room).cells ({ frames := 2, cells := 1, slots := 3, locals := 35 } : Room).slots) := by
 refine MetFree.of_bodySF (plainFor_of_name pn_java_lang_String) hisR ?_
 intro p e s m args below meth c s₁ Bd hml0 hP hK
 obtain ⟨rfl, hZ, hh⟩ := hP
 have hx := Bd.exec
 have hby := Bd.bytes
 have hml : c.maxLocals = 6 := hml0
 have hown : s.vm.findClass "java/lang/String" = some m.cls := findClass_of_methodNamed Bd.named
 have hnm := (name_of_methodNamed Bd.named Bd.method).1
 have X0 : Stand p l e ({ frames := 2, cells := 1, slots := 3, locals := 35 } : Room) s m #[(.ref a5), (.ref ca), (.int (0 : Int32)), (.int (3 : Int32)), .null] below meth c s₁ [] 0 0 := Stand.of_body Bd
 have e0 : s₁.heap = h0 := by rw [← hh, Bd.state]; rfl
 have N0 := Fr.nil n0
 have K00 : Keep h0 h0 [a5] := Keep.refl _ _
 show Rch p e below s₁ (entryFrame m #[(.ref a5), (.ref ca), (.int (0 : Int32)), (.int (3 : Int32)), .null] 6) (FinP s (Q_rm_init4_3 Z G1 a5 ca kc cc0 cc1 cc2 h0 n0) 1 3)
 refine Rch.cast (ef_rm_init4_3 m G1 a5 ca kc cc0 cc1 cc2) ?_
 show Rch p e below s₁ (mkF m 0 #[.val (.ref a5), .val (.ref ca), .val (.int 0), .val (.int 3), .val .null, .unset] []) _
 refine w_aloadN (pc' := 1) X0 hx hby djdk42m149_0 rfl rfl rfl ?_
 obtain ⟨T231, X231, e231, st231⟩ := initO X0 hx hZ hown (wi hw 70 rfl) (wi hw 71 rfl) (wi hw 72 rfl) e0 (g := (mkF m 1 #[.val (.ref a5), .val (.ref ca), .val (.int 0), .val (.int 3), .val .null, .unset] [(.ref a5)])) rfl (by rw [hml]; rfl) rfl (hb hby djdk42m149_1) (by decide) (W := 0) (by show 2 * 0 + _ ≤ _; exact Nat.le_of_eq rfl) (by decide)
 refine Rch.st (fun _ k => st231 _ k) ?_
 show Rch p e below T231 (mkF m 4 #[.val (.ref a5), .val (.ref ca), .val (.int 0), .val (.int 3), .val .null, .unset] []) _
 refine w_iloadN (pc' := 5) X231 hx hby djdk42m149_4 rfl rfl ?_
 refine w_ifYes (pc' := 27) X231 hx hby djdk42m149_5 (XT.i0_ne_t (by decide)) (by decide) ?_
 obtain ⟨T232, X232, e232, st232⟩ := getS X231 hx hZ hown (host := "") (wi hw 36 rfl) Via.refl e231 (O2.ext Old0.2) (g := (mkF m 27 #[.val (.ref a5), .val (.ref ca), .val (.int 0), .val (.int 3), .val .null, .unset] [])) rfl (hb hby djdk42m149_27)
 refine Rch.st (fun _ k => st232 _ k) ?_
 show Rch p e below T232 (mkF m 30 #[.val (.ref a5), .val (.ref ca), .val (.int 0), .val (.int 3), .val .null, .unset] [(.int G1)]) _
 refine w_ifNo (pc' := 33) X232 hx hby djdk42m149_30 (XT.i0_eq_f (P5)) rfl ?_
 refine w_aloadN (pc' := 34) X232 hx hby djdk42m149_33 rfl rfl rfl ?_
 refine w_iloadN (pc' := 35) X232 hx hby djdk42m149_34 rfl rfl ?_
 refine w_iloadN (pc' := 36) X232 hx hby djdk42m149_35 rfl rfl ?_
 obtain ⟨_, _, ⟨T233, L233, k233, n233⟩, -, X233, ⟨Lc233, hQ233, l233, y233, z233⟩, st233⟩ := Jvm.LawKit.callS X232 hx (y := (⟨"java/lang/StringUTF16", "compress", "([CII)[B"⟩ : MethodName)) hown (mvT hZ (wi hw 73 rfl)) (mvT hZ (wi hw 74 rfl)) (mvT hZ (wi hw 75 rfl)) (mvT hZ (wi hw 76 rfl)) (by decide) (backOf (W := 0) (rm_cmp3_3 l Z a0 hw [] ca kc cc0 cc1 cc2 h0 n0 Z0 f5 (hg0) (hg1) (hg2)) hZ (wi hw 76 rfl) (wi hw 75 rfl) (by decide) (by decide)) (g := (mkF m 36 #[.val (.ref a5), .val (.ref ca), .val (.int 0), .val (.int 3), .val .null, .unset] [(.int 3), (.int 0), (.ref ca)])) rfl (by rw [hml]; rfl) (argsL := [(.ref ca), (.int 0), (.int 3)]) (rest := []) (lenOf pd___CII__B rfl) rfl (by show 2 * 0 + _ ≤ _; exact Nat.le_of_eq rfl) (hb hby djdk42m149_36) (fun _ _ => ⟨rfl, e232, (by decide : 0 + 1 ≤ _), (by decide : 0 + 3 ≤ _)⟩)
 dsimp only [Pt.U, Pt.locs, Pt.cells, Pt.slots] at X233 l233 y233 z233 st233 hQ233
 subst l233 y233 z233
 obtain ⟨t_233, kt_233, rfl, NQ233, K233, pq233_0, fq233_0⟩ := hQ233
 have N234 := Fr.app N0 NQ233
 have ne235 := nlt f2.lt pq233_0
 have f238 := f2.keep K233
 have f239 := f3.keep K233 nin0
 have f240 := f4.keep K233 nin0
 have Kp243 : Keep h0 T233.heap [a5] := K00.trans K233 all0
 have Z244 := Nat.le_trans Z0 K233.1
 refine Rch.st (fun _ k => st233 _ k) ?_
 show Rch p e below T233 (mkF m 39 #[.val (.ref a5), .val (.ref ca), .val (.int 0), .val (.int 3), .val .null, .unset] [(.ref t_233)]) _
 refine w_astore (pc' := 41) (l' := #[.val (.ref a5), .val (.ref ca), .val (.int 0), .val (.int 3), .val .null, .val (.ref t_233)]) X233 hx hby djdk42m149_39 rfl rfl rfl ?_
 refine w_aloadN (pc' := 42) X233 hx hby djdk42m149_41 rfl rfl rfl ?_
 refine w_aload (pc' := 44) X233 hx hby djdk42m149_42 rfl rfl rfl ?_
 refine w_iloadN (pc' := 45) X233 hx hby djdk42m149_44 rfl rfl ?_
 obtain ⟨_, _, ⟨T245, L245, k245, n245⟩, -, X245, ⟨Lc245, hQ245, l245, y245, z245⟩, st245⟩ := Jvm.LawKit.callS X233 hx (y := (⟨"java/lang/StringUTF16", "coderFromArrayLen", "([BI)B"⟩ : MethodName)) hown (mvT hZ (wi hw 80 rfl)) (mvT hZ (wi hw 81 rfl)) (mvT hZ (wi hw 75 rfl)) (mvT hZ (wi hw 82 rfl)) (by decide) (backOf (W := 1) (rm_cfl l Z a0 hw [] t_233 kt_233 3 3 ([(.int (own_by cc0)), (.int (own_by cc1)), (.int (own_by cc2))]) (.int 0) T233.heap n0 Z244 fq233_0) hZ (wi hw 82 rfl) (wi hw 75 rfl) (by decide) (by decide)) (g := (mkF m 45 #[.val (.ref a5), .val (.ref ca), .val (.int 0), .val (.int 3), .val .null, .val (.ref t_233)] [(.int 3), (.ref t_233), (.ref a5)])) rfl (by rw [hml]; rfl) (argsL := [(.ref t_233), (.int 3)]) (rest := [(.ref a5)]) (lenOf pd___BI_B rfl) rfl (by show 2 * 0 + _ ≤ _; exact Nat.le_of_eq rfl) (hb hby djdk42m149_45) (fun _ _ => ⟨rfl, (rfl : T233.heap = T233.heap), (by decide : 1 + 0 ≤ _), (by decide : 3 + 0 ≤ _)⟩)
 dsimp only [Pt.U, Pt.locs, Pt.cells, Pt.slots] at X245 l245 y245 z245 st245 hQ245
 subst l245 y245 z245
 obtain ⟨rfl, NQ245, K245⟩ := hQ245
 have N246 := Fr.app N234 NQ245
 refine Rch.st (fun _ k => st245 _ k) ?_
 show Rch p e below T245 (mkF m 48 #[.val (.ref a5), .val (.ref ca), .val (.int 0), .val (.int 3), .val .null, .val (.ref t_233)] [(.int ((XT.ushr ((3 : Int32) - (3 : Int32)) (31 : Int32))).toInt8.toInt32), (.ref a5)]) _
 have r247 : ((XT.ushr ((3 : Int32) - (3 : Int32)) (31 : Int32))).toInt8.toInt32 = (0 : Int32) := by decide
 rw [r247]
 show Rch p e below T245 (mkF m 48 #[.val (.ref a5), .val (.ref ca), .val (.int 0), .val (.int 3), .val .null, .val (.ref t_233)] [(.int 0), (.ref a5)]) _
 obtain ⟨T248, h248, X248, e248, W248, st248⟩ := putF X245 hx hZ hown (host := "") (Or.inl (wi hw 37 rfl)) Via.refl K245 f239 f238 (Or.inr ⟨(wi hw 13 rfl), rfl, hnm⟩) (wi hw 10 rfl) (ty := .byte) (by decide) rfl rfl (g := (mkF m 48 #[.val (.ref a5), .val (.ref ca), .val (.int 0), .val (.int 3), .val .null, .val (.ref t_233)] [(.int 0), (.ref a5)])) rfl rfl (hb hby djdk42m149_48)
 have N249 := Fr.snoc X248 N246 ga
 have f250 := f238.wr W248
 have f251 := f239.same W248
 have f252 := f240.other W248 (Or.inr (slot_ne (t := (.array .byte)) (t' := .byte) (Or.inr (wi hw 12 rfl)) (Or.inr (wi hw 13 rfl)) (by decide) (by decide) (by decide)))
 have f254 := fq233_0.other W248 (Ne.symm ne235)
 have Kp257 : Keep h0 h248 [a5] := Kp243.wr W248 (Or.inl (List.mem_of_getElem? (i := 0) rfl))
 refine Rch.st (fun _ k => st248 _ k) ?_
 show Rch p e below T248 (mkF m 51 #[.val (.ref a5), .val (.ref ca), .val (.int 0), .val (.int 3), .val .null, .val (.ref t_233)] []) _
 refine w_aloadN (pc' := 52) X248 hx hby djdk42m149_51 rfl rfl rfl ?_
 refine w_aload (pc' := 54) X248 hx hby djdk42m149_52 rfl rfl rfl ?_
 obtain ⟨T258, h258, X258, e258, W258, st258⟩ := putF X248 hx hZ hown (host := "") (Or.inl (wi hw 30 rfl)) Via.refl e248 f252 f250 (Or.inr ⟨(wi hw 12 rfl), rfl, hnm⟩) (wi hw 10 rfl) (ty := (.array .byte)) (by decide) rfl rfl (g := (mkF m 54 #[.val (.ref a5), .val (.ref ca), .val (.int 0), .val (.int 3), .val .null, .val (.ref t_233)] [(.ref t_233), (.ref a5)])) rfl rfl (hb hby djdk42m149_54)
 have N259 := Fr.snoc X258 N249 ga
 have f261 := f251.other W258 (Or.inr (slot_ne (t := .byte) (t' := (.array .byte)) (Or.inr (wi hw 13 rfl)) (Or.inr (wi hw 12 rfl)) (by decide) (by decide) (by decide)))
 have f262 := f252.same W258
 have f264 := f254.other W258 (Ne.symm ne235)
 have Kp267 : Keep h0 h258 [a5] := Kp257.wr W258 (Or.inl (List.mem_of_getElem? (i := 0) rfl))
 refine Rch.st (fun _ k => st258 _ k) ?_
 show Rch p e below T258 (mkF m 57 #[.val (.ref a5), .val (.ref ca), .val (.int 0), .val (.int 3), .val .null, .val (.ref t_233)] []) _
 exact Rch.ret0 X258 hx Bd.returns (hb hby djdk42m149_57) (by rw [e258]; exact ⟨t_233, kt_233, rfl, N259, Kp267, (Nat.le_trans K00.1 pq233_0), f261, f262, f264⟩) (by decide) (by decide)

theorem ef_rm_init1_3 (m : MethodId) (G1 : Int32) (a5 : Addr) (ca : Addr) (kc : ClassId) (cc0 : Int32) (cc1 : Int32) (cc2 : Int32)  : entryFrame m #[(.ref a5), (.ref ca)] 2 = mkF m 0 #[.val (.ref a5), .val (.ref ca)] [] := by  first | (simp [entryFrame, mkF, argsToLocals, Value.category, maxLocals]; done) | rfl
def Q_rm_init1_3 (Z : State) (G1 : Int32) (a5 : Addr) (ca : Addr) (kc : ClassId) (cc0 : Int32) (cc1 : Int32) (cc2 : Int32) (h0 : Heap) (n0 : Nat) (v : Option Value) (h : Heap) (L : List Loc) : Prop := ∃ (t : Addr) (kt : ClassId), (v = none) ∧ (Fr n0 L) ∧ (Keep h0 h [a5]) ∧ (h0.size ≤ t) ∧ (Fld Z h a5 "java/lang/String" "coder" "B" (.int (0 : Int32))) ∧ (Fld Z h a5 "java/lang/String" "value" "[B" (.ref t)) ∧ (Arv Z h t kt .byte (3 : Int32) [(.int (own_by cc0)), (.int (own_by cc1)), (.int (own_by cc2))] (.int (0 : Int32)))
set_option maxRecDepth 65536 in
set_option maxHeartbeats 40000000 in
theorem rm_init1_3 (l : Launch) (Z : State) (a0 : Array Value) (hw : ∀ d ∈ tables_1, d.before a0 Z = true) (ws : List Jvm.Cond) (G1 : Int32) (a5 : Addr) (ca : Addr) (kc : ClassId) (cc0 : Int32) (cc1 : Int32) (cc2 : Int32) (h0 : Heap) (n0 : Nat) (Z0 : n0 ≤ h0.size) (O2 : Sta Z Z.heap "java/lang/String" "COMPACT_STRINGS" "Z" (.int G1)) (P5 : ¬ G1 = 0) (f2 : Exa Z h0 a5 "java/lang/String") (f3 : Fld Z h0 a5 "java/lang/String" "coder" "B" (.int (0 : Int32))) (f4 : Fld Z h0 a5 "java/lang/String" "value" "[B" .null) (f5 : Arv Z h0 ca kc .char (3 : Int32) [(.int cc0), (.int cc1), (.int cc2)] (.int (0 : Int32))) (ga : n0 ≤ a5) (nca : a5 ≠ ca) (hg0 : ¬ (255 : Int32) < cc0) (hg1 : ¬ (255 : Int32) < cc1) (hg2 : ¬ (255 : Int32) < cc2) (Old0 : OldL Z n0 h0) :
    MetFree l (⟨"java/lang/String", "<init>", "([C)V"⟩ : MethodName) (head1 (Jvm.Cond.code (⟨"java/lang/String", "<init>", "([C)V"⟩ : MethodName) jdk_42_method_3_code 2 none :: ws) ({ frames := 3, cells := 1, slots := 3, locals := 52 } : Room)) (fun a U => a = #[(.ref a5), (.ref ca)] ∧ Z.Warmed39 U.vm ∧ U.heap = h0) (fun _ _ _ _ _ => True) (fun _ U o U' => ∃ v L, o = .returned v ∧ Q_rm_init1_3 Z G1 a5 ca kc cc0 cc1 cc2 h0 n0 v U'.heap L ∧ FrameEnd U o U' L ({ frames := 3, cells := 1, slots := 3, locals := 52 } : Room).cells ({ frames := 3, cells := 1, slots := 3, locals := 52 } : Room).slots) := by
 refine MetFree.of_bodySF (plainFor_of_name pn_java_lang_String) hisR ?_
 intro p e s m args below meth c s₁ Bd hml0 hP hK
 obtain ⟨rfl, hZ, hh⟩ := hP
 have hx := Bd.exec
 have hby := Bd.bytes
 have hml : c.maxLocals = 2 := hml0
 have hown : s.vm.findClass "java/lang/String" = some m.cls := findClass_of_methodNamed Bd.named
 have hnm := (name_of_methodNamed Bd.named Bd.method).1
 have X0 : Stand p l e ({ frames := 3, cells := 1, slots := 3, locals := 52 } : Room) s m #[(.ref a5), (.ref ca)] below meth c s₁ [] 0 0 := Stand.of_body Bd
 have e0 : s₁.heap = h0 := by rw [← hh, Bd.state]; rfl
 have N0 := Fr.nil n0
 have K00 : Keep h0 h0 [a5] := Keep.refl _ _
 show Rch p e below s₁ (entryFrame m #[(.ref a5), (.ref ca)] 2) (FinP s (Q_rm_init1_3 Z G1 a5 ca kc cc0 cc1 cc2 h0 n0) 1 3)
 refine Rch.cast (ef_rm_init1_3 m G1 a5 ca kc cc0 cc1 cc2) ?_
 show Rch p e below s₁ (mkF m 0 #[.val (.ref a5), .val (.ref ca)] []) _
 refine w_aloadN (pc' := 1) X0 hx hby djdk42m3_0 rfl rfl rfl ?_
 refine w_aloadN (pc' := 2) X0 hx hby djdk42m3_1 rfl rfl rfl ?_
 refine w_iconst (pc' := 3) (v := 0) X0 hx hby djdk42m3_2 rfl rfl ?_
 refine w_aloadN (pc' := 4) X0 hx hby djdk42m3_3 rfl rfl rfl ?_
 refine Rch.st (fun _ k => own_alen X0 hx hZ e0 f5 rfl rfl (hb hby djdk42m3_4) k) ?_
 show Rch p e below s₁ (mkF m 5 #[.val (.ref a5), .val (.ref ca)] [(.int 3), (.int 0), (.ref ca), (.ref a5)]) _
 refine w_aconstNull (pc' := 6) X0 hx hby djdk42m3_5 rfl ?_
 obtain ⟨_, _, ⟨T268, L268, k268, n268⟩, -, X268, ⟨Lc268, hQ268, l268, y268, z268⟩, st268⟩ := X0.specialBack hx (y := (⟨"java/lang/String", "<init>", "([CIILjava/lang/Void;)V"⟩ : MethodName)) rfl hown (mvT hZ (wi hw 66 rfl)) (mvT hZ (wi hw 67 rfl)) (mvT hZ (wi hw 69 rfl)) (by decide) (backOf (W := 0) (rm_init4_3 l Z a0 hw [] G1 a5 ca kc cc0 cc1 cc2 h0 n0 Z0 (O2) (P5) f2 f3 f4 f5 (ga) (nca) (hg0) (hg1) (hg2) Old0) hZ (wi hw 69 rfl) (wi hw 9 rfl) (by decide) (by decide)) (g := (mkF m 6 #[.val (.ref a5), .val (.ref ca)] [.null, (.int 3), (.int 0), (.ref ca), (.ref a5)])) rfl (by rw [hml]; rfl) (Steps.refl _) (a := a5) (argsL := [(.ref ca), (.int 0), (.int 3), .null]) (rest := []) (lenOf pd___CIILjava_lang_Void__V rfl) rfl (by show 2 * 0 + _ ≤ _; exact Nat.le_of_eq rfl) (hb hby djdk42m3_6) (fun _ _ => ⟨rfl, e0, (by decide : 0 + 1 ≤ _), (by decide : 0 + 3 ≤ _)⟩)
 dsimp only [Pt.U, Pt.locs, Pt.cells, Pt.slots] at X268 l268 y268 z268 st268 hQ268
 subst l268 y268 z268
 obtain ⟨t_268, kt_268, rfl, NQ268, K268, pq268_0, fq268_0, fq268_1, fq268_2⟩ := hQ268
 have N269 := Fr.app N0 NQ268
 have Kp276 : Keep h0 T268.heap [a5] := K00.trans K268 (allS (Or.inl (List.mem_of_getElem? (i := 0) rfl)) all0)
 refine Rch.st (fun _ k => st268.trans k) ?_
 show Rch p e below T268 (mkF m 9 #[.val (.ref a5), .val (.ref ca)] []) _
 exact Rch.ret0 X268 hx Bd.returns (hb hby djdk42m3_9) (by rw [(rfl : T268.heap = T268.heap)]; exact ⟨t_268, kt_268, rfl, N269, Kp276, (Nat.le_trans K00.1 pq268_0), fq268_0, fq268_1, fq268_2⟩) (by decide) (by decide)

theorem ef_rm_cmp5_4 (m : MethodId) (ca : Addr) (kc : ClassId) (bd : Addr) (kd : ClassId) (cc0 : Int32) (cc1 : Int32) (cc2 : Int32) (cc3 : Int32)  : entryFrame m #[(.ref ca), (.int (0 : Int32)), (.ref bd), (.int (0 : Int32)), (.int (4 : Int32))] 7 = mkF m 0 #[.val (.ref ca), .val (.int (0 : Int32)), .val (.ref bd), .val (.int (0 : Int32)), .val (.int (4 : Int32)), .unset, .unset] [] := by  first | (simp [entryFrame, mkF, argsToLocals, Value.category, maxLocals]; done) | rfl
def Q_rm_cmp5_4 (Z : State) (ca : Addr) (kc : ClassId) (bd : Addr) (kd : ClassId) (cc0 : Int32) (cc1 : Int32) (cc2 : Int32) (cc3 : Int32) (h0 : Heap) (n0 : Nat) (v : Option Value) (h : Heap) (L : List Loc) : Prop := (v = some (.int (4 : Int32))) ∧ (Fr n0 L) ∧ (Keep h0 h [bd]) ∧ (Arv Z h bd kd .byte (4 : Int32) [(.int (own_by cc0)), (.int (own_by cc1)), (.int (own_by cc2)), (.int (own_by cc3))] (.int (0 : Int32)))
set_option maxRecDepth 65536 in
set_option maxHeartbeats 40000000 in
theorem rm_cmp5_4 (l : Launch) (Z : State) (a0 : Array Value) (hw : ∀ d ∈ tables_1, d.before a0 Z = true) (ws : List Jvm.Cond) (ca : Addr) (kc : ClassId) (bd : Addr) (kd : ClassId) (cc0 : Int32) (cc1 : Int32) (cc2 : Int32) (cc3 : Int32) (h0 : Heap) (n0 : Nat) (Z0 : n0 ≤ h0.size) (f0 : Arv Z h0 ca kc .char (4 : Int32) [(.int cc0), (.int cc1), (.int cc2), (.int cc3)] (.int (0 : Int32))) (f1 : Arv Z h0 bd kd .byte (4 : Int32) [(.int (0 : Int32)), (.int (0 : Int32)), (.int (0 : Int32)), (.int (0 : Int32))] (.int (0 : Int32))) (gd : n0 ≤ bd) (ncd : ca ≠ bd) (hg0 : ¬ (255 : Int32) < cc0) (hg1 : ¬ (255 : Int32) < cc1) (hg2 : ¬ (255 : Int32) < cc2) (hg3 : ¬ (255 : Int32) < cc3) :
    MetFree l (⟨"java/lang/StringUTF16", "compress", "([CI[BII)I"⟩ : MethodName) (head1 (Jvm.Cond.code (⟨"java/lang/StringUTF16", "compress", "([CI[BII)I"⟩ : MethodName) jdk_52_method_21_code 7 (some .int) :: ws) ({ frames := 0, cells := 0, slots := 0, locals := 0 } : Room)) (fun a U => a = #[(.ref ca), (.int (0 : Int32)), (.ref bd), (.int (0 : Int32)), (.int (4 : Int32))] ∧ Z.Warmed39 U.vm ∧ U.heap = h0) (fun _ _ _ _ _ => True) (fun _ U o U' => ∃ v L, o = .returned v ∧ Q_rm_cmp5_4 Z ca kc bd kd cc0 cc1 cc2 cc3 h0 n0 v U'.heap L ∧ FrameEnd U o U' L ({ frames := 0, cells := 0, slots := 0, locals := 0 } : Room).cells ({ frames := 0, cells := 0, slots := 0, locals := 0 } : Room).slots) := by
 refine MetFree.of_bodySF (plainFor_of_name pn_java_lang_StringUTF16) hisR ?_
 intro p e s m args below meth c s₁ Bd hml0 hP hK
 obtain ⟨rfl, hZ, hh⟩ := hP
 have hx := Bd.exec
 have hby := Bd.bytes
 have hml : c.maxLocals = 7 := hml0
 have hown : s.vm.findClass "java/lang/StringUTF16" = some m.cls := findClass_of_methodNamed Bd.named
 have hnm := (name_of_methodNamed Bd.named Bd.method).1
 have X0 : Stand p l e ({ frames := 0, cells := 0, slots := 0, locals := 0 } : Room) s m #[(.ref ca), (.int (0 : Int32)), (.ref bd), (.int (0 : Int32)), (.int (4 : Int32))] below meth c s₁ [] 0 0 := Stand.of_body Bd
 have e0 : s₁.heap = h0 := by rw [← hh, Bd.state]; rfl
 have N0 := Fr.nil n0
 have K00 : Keep h0 h0 [bd] := Keep.refl _ _
 show Rch p e below s₁ (entryFrame m #[(.ref ca), (.int (0 : Int32)), (.ref bd), (.int (0 : Int32)), (.int (4 : Int32))] 7) (FinP s (Q_rm_cmp5_4 Z ca kc bd kd cc0 cc1 cc2 cc3 h0 n0) 0 0)
 refine Rch.cast (ef_rm_cmp5_4 m ca kc bd kd cc0 cc1 cc2 cc3) ?_
 show Rch p e below s₁ (mkF m 0 #[.val (.ref ca), .val (.int 0), .val (.ref bd), .val (.int 0), .val (.int 4), .unset, .unset] []) _
 refine w_iconst (pc' := 1) (v := 0) X0 hx hby djdk52m21_0 rfl rfl ?_
 refine w_istore (pc' := 3) (l' := #[.val (.ref ca), .val (.int 0), .val (.ref bd), .val (.int 0), .val (.int 4), .val (.int 0), .unset]) X0 hx hby djdk52m21_1 rfl rfl ?_
 refine w_iload (pc' := 5) X0 hx hby djdk52m21_3 rfl rfl ?_
 refine w_iload (pc' := 7) X0 hx hby djdk52m21_5 rfl rfl ?_
 refine w_icmpNo (pc' := 10) X0 hx hby djdk52m21_7 (XT.ii_ge_f (by decide)) rfl ?_
 refine w_aloadN (pc' := 11) X0 hx hby djdk52m21_10 rfl rfl rfl ?_
 refine w_iloadN (pc' := 12) X0 hx hby djdk52m21_11 rfl rfl ?_
 refine Rch.st (fun _ k => own_ldC X0 hx hZ e0 f0 (j := (0 : Int32)) ⟨by decide, by decide⟩ (by rfl) rfl rfl (hb hby djdk52m21_12) k) ?_
 show Rch p e below s₁ (mkF m 13 #[.val (.ref ca), .val (.int 0), .val (.ref bd), .val (.int 0), .val (.int 4), .val (.int 0), .unset] [(.int cc0)]) _
 refine w_istore (pc' := 15) (l' := #[.val (.ref ca), .val (.int 0), .val (.ref bd), .val (.int 0), .val (.int 4), .val (.int 0), .val (.int cc0)]) X0 hx hby djdk52m21_13 rfl rfl ?_
 refine w_iload (pc' := 17) X0 hx hby djdk52m21_15 rfl rfl ?_
 refine w_sipush (pc' := 20) (v := 255) X0 hx hby djdk52m21_17 rfl rfl ?_
 refine w_icmpYes (pc' := 26) X0 hx hby djdk52m21_20 (XT.ii_le_t (hg0)) (by decide) ?_
 refine w_aloadN (pc' := 27) X0 hx hby djdk52m21_26 rfl rfl rfl ?_
 refine w_iloadN (pc' := 28) X0 hx hby djdk52m21_27 rfl rfl ?_
 refine w_iload (pc' := 30) X0 hx hby djdk52m21_28 rfl rfl ?_
 refine w_i2b (pc' := 31) X0 hx hby djdk52m21_30 rfl ?_
 obtain ⟨T278, h278, X278, e278, W278, V278, st278⟩ := own_stB X0 hx hZ e0 f1 (j := (0 : Int32)) ⟨by decide, by decide⟩ 0 (by decide) (by decide : 0 < 4) (g := (mkF m 31 #[.val (.ref ca), .val (.int 0), .val (.ref bd), .val (.int 0), .val (.int 4), .val (.int 0), .val (.int cc0)] [(.int (cc0).toInt8.toInt32), (.int 0), (.ref bd)])) rfl rfl (hb hby djdk52m21_31)
 have N279 := Fr.snoc X278 N0 gd
 have f280 := f0.other W278 ncd
 have Kp282 : Keep h0 h278 [bd] := K00.wr W278 (Or.inl (List.mem_of_getElem? (i := 0) rfl))
 have f283 : Arv Z h278 bd kd .byte (4 : Int32) [(.int ((cc0).toInt8.toInt32).toInt8.toInt32), (.int (0 : Int32)), (.int (0 : Int32)), (.int (0 : Int32))] (.int (0 : Int32)) := V278
 refine Rch.st (fun _ k => st278 _ k) ?_
 show Rch p e below T278 (mkF m 32 #[.val (.ref ca), .val (.int 0), .val (.ref bd), .val (.int 0), .val (.int 4), .val (.int 0), .val (.int cc0)] []) _
 refine w_iinc (pc' := 35) (w := (1 : Int32)) (l' := #[.val (.ref ca), .val (.int (1 : Int32)), .val (.ref bd), .val (.int (0 : Int32)), .val (.int (4 : Int32)), .val (.int (0 : Int32)), .val (.int cc0)]) X278 hx hby djdk52m21_32 rfl (by decide) rfl rfl ?_
 refine w_iinc (pc' := 38) (w := (1 : Int32)) (l' := #[.val (.ref ca), .val (.int (1 : Int32)), .val (.ref bd), .val (.int (1 : Int32)), .val (.int (4 : Int32)), .val (.int (0 : Int32)), .val (.int cc0)]) X278 hx hby djdk52m21_35 rfl (by decide) rfl rfl ?_
 refine w_iinc (pc' := 41) (w := (1 : Int32)) (l' := #[.val (.ref ca), .val (.int (1 : Int32)), .val (.ref bd), .val (.int (1 : Int32)), .val (.int (4 : Int32)), .val (.int (1 : Int32)), .val (.int cc0)]) X278 hx hby djdk52m21_38 rfl (by decide) rfl rfl ?_
 refine w_goto (pc' := 3) X278 hx hby djdk52m21_41 (by decide) ?_
 refine w_iload (pc' := 5) X278 hx hby djdk52m21_3 rfl rfl ?_
 refine w_iload (pc' := 7) X278 hx hby djdk52m21_5 rfl rfl ?_
 refine w_icmpNo (pc' := 10) X278 hx hby djdk52m21_7 (XT.ii_ge_f (by decide)) rfl ?_
 refine w_aloadN (pc' := 11) X278 hx hby djdk52m21_10 rfl rfl rfl ?_
 refine w_iloadN (pc' := 12) X278 hx hby djdk52m21_11 rfl rfl ?_
 refine Rch.st (fun _ k => own_ldC X278 hx hZ e278 f280 (j := (1 : Int32)) ⟨by decide, by decide⟩ (by rfl) rfl rfl (hb hby djdk52m21_12) k) ?_
 show Rch p e below T278 (mkF m 13 #[.val (.ref ca), .val (.int 1), .val (.ref bd), .val (.int 1), .val (.int 4), .val (.int 1), .val (.int cc0)] [(.int cc1)]) _
 refine w_istore (pc' := 15) (l' := #[.val (.ref ca), .val (.int 1), .val (.ref bd), .val (.int 1), .val (.int 4), .val (.int 1), .val (.int cc1)]) X278 hx hby djdk52m21_13 rfl rfl ?_
 refine w_iload (pc' := 17) X278 hx hby djdk52m21_15 rfl rfl ?_
 refine w_sipush (pc' := 20) (v := 255) X278 hx hby djdk52m21_17 rfl rfl ?_
 refine w_icmpYes (pc' := 26) X278 hx hby djdk52m21_20 (XT.ii_le_t (hg1)) (by decide) ?_
 refine w_aloadN (pc' := 27) X278 hx hby djdk52m21_26 rfl rfl rfl ?_
 refine w_iloadN (pc' := 28) X278 hx hby djdk52m21_27 rfl rfl ?_
 refine w_iload (pc' := 30) X278 hx hby djdk52m21_28 rfl rfl ?_
 refine w_i2b (pc' := 31) X278 hx hby djdk52m21_30 rfl ?_
 obtain ⟨T284, h284, X284, e284, W284, V284, st284⟩ := own_stB X278 hx hZ e278 f283 (j := (1 : Int32)) ⟨by decide, by decide⟩ 1 (by decide) (by decide : 1 < 4) (g := (mkF m 31 #[.val (.ref ca), .val (.int 1), .val (.ref bd), .val (.int 1), .val (.int 4), .val (.int 1), .val (.int cc1)] [(.int (cc1).toInt8.toInt32), (.int 1), (.ref bd)])) rfl rfl (hb hby djdk52m21_31)
 have N285 := Fr.snoc X284 N279 gd
 have f286 := f280.other W284 ncd
 have Kp288 : Keep h0 h284 [bd] := Kp282.wr W284 (Or.inl (List.mem_of_getElem? (i := 0) rfl))
 have f289 : Arv Z h284 bd kd .byte (4 : Int32) [(.int ((cc0).toInt8.toInt32).toInt8.toInt32), (.int ((cc1).toInt8.toInt32).toInt8.toInt32), (.int (0 : Int32)), (.int (0 : Int32))] (.int (0 : Int32)) := V284
 refine Rch.st (fun _ k => st284 _ k) ?_
 show Rch p e below T284 (mkF m 32 #[.val (.ref ca), .val (.int 1), .val (.ref bd), .val (.int 1), .val (.int 4), .val (.int 1), .val (.int cc1)] []) _
 refine w_iinc (pc' := 35) (w := (2 : Int32)) (l' := #[.val (.ref ca), .val (.int (2 : Int32)), .val (.ref bd), .val (.int (1 : Int32)), .val (.int (4 : Int32)), .val (.int (1 : Int32)), .val (.int cc1)]) X284 hx hby djdk52m21_32 rfl (by decide) rfl rfl ?_
 refine w_iinc (pc' := 38) (w := (2 : Int32)) (l' := #[.val (.ref ca), .val (.int (2 : Int32)), .val (.ref bd), .val (.int (2 : Int32)), .val (.int (4 : Int32)), .val (.int (1 : Int32)), .val (.int cc1)]) X284 hx hby djdk52m21_35 rfl (by decide) rfl rfl ?_
 refine w_iinc (pc' := 41) (w := (2 : Int32)) (l' := #[.val (.ref ca), .val (.int (2 : Int32)), .val (.ref bd), .val (.int (2 : Int32)), .val (.int (4 : Int32)), .val (.int (2 : Int32)), .val (.int cc1)]) X284 hx hby djdk52m21_38 rfl (by decide) rfl rfl ?_
 refine w_goto (pc' := 3) X284 hx hby djdk52m21_41 (by decide) ?_
 refine w_iload (pc' := 5) X284 hx hby djdk52m21_3 rfl rfl ?_
 refine w_iload (pc' := 7) X284 hx hby djdk52m21_5 rfl rfl ?_
 refine w_icmpNo (pc' := 10) X284 hx hby djdk52m21_7 (XT.ii_ge_f (by decide)) rfl ?_
 refine w_aloadN (pc' := 11) X284 hx hby djdk52m21_10 rfl rfl rfl ?_
 refine w_iloadN (pc' := 12) X284 hx hby djdk52m21_11 rfl rfl ?_
 refine Rch.st (fun _ k => own_ldC X284 hx hZ e284 f286 (j := (2 : Int32)) ⟨by decide, by decide⟩ (by rfl) rfl rfl (hb hby djdk52m21_12) k) ?_
 show Rch p e below T284 (mkF m 13 #[.val (.ref ca), .val (.int 2), .val (.ref bd), .val (.int 2), .val (.int 4), .val (.int 2), .val (.int cc1)] [(.int cc2)]) _
 refine w_istore (pc' := 15) (l' := #[.val (.ref ca), .val (.int 2), .val (.ref bd), .val (.int 2), .val (.int 4), .val (.int 2), .val (.int cc2)]) X284 hx hby djdk52m21_13 rfl rfl ?_
 refine w_iload (pc' := 17) X284 hx hby djdk52m21_15 rfl rfl ?_
 refine w_sipush (pc' := 20) (v := 255) X284 hx hby djdk52m21_17 rfl rfl ?_
 refine w_icmpYes (pc' := 26) X284 hx hby djdk52m21_20 (XT.ii_le_t (hg2)) (by decide) ?_
 refine w_aloadN (pc' := 27) X284 hx hby djdk52m21_26 rfl rfl rfl ?_
 refine w_iloadN (pc' := 28) X284 hx hby djdk52m21_27 rfl rfl ?_
 refine w_iload (pc' := 30) X284 hx hby djdk52m21_28 rfl rfl ?_
 refine w_i2b (pc' := 31) X284 hx hby djdk52m21_30 rfl ?_
 obtain ⟨T290, h290, X290, e290, W290, V290, st290⟩ := own_stB X284 hx hZ e284 f289 (j := (2 : Int32)) ⟨by decide, by decide⟩ 2 (by decide) (by decide : 2 < 4) (g := (mkF m 31 #[.val (.ref ca), .val (.int 2), .val (.ref bd), .val (.int 2), .val (.int 4), .val (.int 2), .val (.int cc2)] [(.int (cc2).toInt8.toInt32), (.int 2), (.ref bd)])) rfl rfl (hb hby djdk52m21_31)
 have N291 := Fr.snoc X290 N285 gd
 have f292 := f286.other W290 ncd
 have Kp294 : Keep h0 h290 [bd] := Kp288.wr W290 (Or.inl (List.mem_of_getElem? (i := 0) rfl))
 have f295 : Arv Z h290 bd kd .byte (4 : Int32) [(.int ((cc0).toInt8.toInt32).toInt8.toInt32), (.int ((cc1).toInt8.toInt32).toInt8.toInt32), (.int ((cc2).toInt8.toInt32).toInt8.toInt32), (.int (0 : Int32))] (.int (0 : Int32)) := V290
 refine Rch.st (fun _ k => st290 _ k) ?_
 show Rch p e below T290 (mkF m 32 #[.val (.ref ca), .val (.int 2), .val (.ref bd), .val (.int 2), .val (.int 4), .val (.int 2), .val (.int cc2)] []) _
 refine w_iinc (pc' := 35) (w := (3 : Int32)) (l' := #[.val (.ref ca), .val (.int (3 : Int32)), .val (.ref bd), .val (.int (2 : Int32)), .val (.int (4 : Int32)), .val (.int (2 : Int32)), .val (.int cc2)]) X290 hx hby djdk52m21_32 rfl (by decide) rfl rfl ?_
 refine w_iinc (pc' := 38) (w := (3 : Int32)) (l' := #[.val (.ref ca), .val (.int (3 : Int32)), .val (.ref bd), .val (.int (3 : Int32)), .val (.int (4 : Int32)), .val (.int (2 : Int32)), .val (.int cc2)]) X290 hx hby djdk52m21_35 rfl (by decide) rfl rfl ?_
 refine w_iinc (pc' := 41) (w := (3 : Int32)) (l' := #[.val (.ref ca), .val (.int (3 : Int32)), .val (.ref bd), .val (.int (3 : Int32)), .val (.int (4 : Int32)), .val (.int (3 : Int32)), .val (.int cc2)]) X290 hx hby djdk52m21_38 rfl (by decide) rfl rfl ?_
 refine w_goto (pc' := 3) X290 hx hby djdk52m21_41 (by decide) ?_
 refine w_iload (pc' := 5) X290 hx hby djdk52m21_3 rfl rfl ?_
 refine w_iload (pc' := 7) X290 hx hby djdk52m21_5 rfl rfl ?_
 refine w_icmpNo (pc' := 10) X290 hx hby djdk52m21_7 (XT.ii_ge_f (by decide)) rfl ?_
 refine w_aloadN (pc' := 11) X290 hx hby djdk52m21_10 rfl rfl rfl ?_
 refine w_iloadN (pc' := 12) X290 hx hby djdk52m21_11 rfl rfl ?_
 refine Rch.st (fun _ k => own_ldC X290 hx hZ e290 f292 (j := (3 : Int32)) ⟨by decide, by decide⟩ (by rfl) rfl rfl (hb hby djdk52m21_12) k) ?_
 show Rch p e below T290 (mkF m 13 #[.val (.ref ca), .val (.int 3), .val (.ref bd), .val (.int 3), .val (.int 4), .val (.int 3), .val (.int cc2)] [(.int cc3)]) _
 refine w_istore (pc' := 15) (l' := #[.val (.ref ca), .val (.int 3), .val (.ref bd), .val (.int 3), .val (.int 4), .val (.int 3), .val (.int cc3)]) X290 hx hby djdk52m21_13 rfl rfl ?_
 refine w_iload (pc' := 17) X290 hx hby djdk52m21_15 rfl rfl ?_
 refine w_sipush (pc' := 20) (v := 255) X290 hx hby djdk52m21_17 rfl rfl ?_
 refine w_icmpYes (pc' := 26) X290 hx hby djdk52m21_20 (XT.ii_le_t (hg3)) (by decide) ?_
 refine w_aloadN (pc' := 27) X290 hx hby djdk52m21_26 rfl rfl rfl ?_
 refine w_iloadN (pc' := 28) X290 hx hby djdk52m21_27 rfl rfl ?_
 refine w_iload (pc' := 30) X290 hx hby djdk52m21_28 rfl rfl ?_
 refine w_i2b (pc' := 31) X290 hx hby djdk52m21_30 rfl ?_
 obtain ⟨T296, h296, X296, e296, W296, V296, st296⟩ := own_stB X290 hx hZ e290 f295 (j := (3 : Int32)) ⟨by decide, by decide⟩ 3 (by decide) (by decide : 3 < 4) (g := (mkF m 31 #[.val (.ref ca), .val (.int 3), .val (.ref bd), .val (.int 3), .val (.int 4), .val (.int 3), .val (.int cc3)] [(.int (cc3).toInt8.toInt32), (.int 3), (.ref bd)])) rfl rfl (hb hby djdk52m21_31)
 have N297 := Fr.snoc X296 N291 gd
 have Kp300 : Keep h0 h296 [bd] := Kp294.wr W296 (Or.inl (List.mem_of_getElem? (i := 0) rfl))
 have f301 : Arv Z h296 bd kd .byte (4 : Int32) [(.int ((cc0).toInt8.toInt32).toInt8.toInt32), (.int ((cc1).toInt8.toInt32).toInt8.toInt32), (.int ((cc2).toInt8.toInt32).toInt8.toInt32), (.int ((cc3).toInt8.toInt32).toInt8.toInt32)] (.int (0 : Int32)) := V296
 refine Rch.st (fun _ k => st296 _ k) ?_
 show Rch p e below T296 (mkF m 32 #[.val (.ref ca), .val (.int 3), .val (.ref bd), .val (.int 3), .val (.int 4), .val (.int 3), .val (.int cc3)] []) _
 refine w_iinc (pc' := 35) (w := (4 : Int32)) (l' := #[.val (.ref ca), .val (.int (4 : Int32)), .val (.ref bd), .val (.int (3 : Int32)), .val (.int (4 : Int32)), .val (.int (3 : Int32)), .val (.int cc3)]) X296 hx hby djdk52m21_32 rfl (by decide) rfl rfl ?_
 refine w_iinc (pc' := 38) (w := (4 : Int32)) (l' := #[.val (.ref ca), .val (.int (4 : Int32)), .val (.ref bd), .val (.int (4 : Int32)), .val (.int (4 : Int32)), .val (.int (3 : Int32)), .val (.int cc3)]) X296 hx hby djdk52m21_35 rfl (by decide) rfl rfl ?_
 refine w_iinc (pc' := 41) (w := (4 : Int32)) (l' := #[.val (.ref ca), .val (.int (4 : Int32)), .val (.ref bd), .val (.int (4 : Int32)), .val (.int (4 : Int32)), .val (.int (4 : Int32)), .val (.int cc3)]) X296 hx hby djdk52m21_38 rfl (by decide) rfl rfl ?_
 refine w_goto (pc' := 3) X296 hx hby djdk52m21_41 (by decide) ?_
 refine w_iload (pc' := 5) X296 hx hby djdk52m21_3 rfl rfl ?_
 refine w_iload (pc' := 7) X296 hx hby djdk52m21_5 rfl rfl ?_
 refine w_icmpYes (pc' := 44) X296 hx hby djdk52m21_7 (XT.ii_ge_t (by decide)) (by decide) ?_
 refine w_iload (pc' := 46) X296 hx hby djdk52m21_44 rfl rfl ?_
 exact Rch.retV X296 hx Bd.returns rfl (Or.inl ⟨rfl, by simp, _, rfl⟩) (hb hby djdk52m21_46) (by rw [e296]; exact ⟨rfl, N297, Kp300, f301⟩) (by decide) (by decide)

theorem ef_rm_cmp3_4 (m : MethodId) (ca : Addr) (kc : ClassId) (cc0 : Int32) (cc1 : Int32) (cc2 : Int32) (cc3 : Int32)  : entryFrame m #[(.ref ca), (.int (0 : Int32)), (.int (4 : Int32))] 6 = mkF m 0 #[.val (.ref ca), .val (.int (0 : Int32)), .val (.int (4 : Int32)), .unset, .unset, .unset] [] := by  first | (simp [entryFrame, mkF, argsToLocals, Value.category, maxLocals]; done) | rfl
def Q_rm_cmp3_4 (Z : State) (ca : Addr) (kc : ClassId) (cc0 : Int32) (cc1 : Int32) (cc2 : Int32) (cc3 : Int32) (h0 : Heap) (n0 : Nat) (v : Option Value) (h : Heap) (L : List Loc) : Prop := ∃ (t : Addr) (kt : ClassId), (v = some (.ref t)) ∧ (Fr n0 L) ∧ (Keep h0 h []) ∧ (h0.size ≤ t) ∧ (Arv Z h t kt .byte (4 : Int32) [(.int (own_by cc0)), (.int (own_by cc1)), (.int (own_by cc2)), (.int (own_by cc3))] (.int (0 : Int32)))
set_option maxRecDepth 65536 in
set_option maxHeartbeats 40000000 in
theorem rm_cmp3_4 (l : Launch) (Z : State) (a0 : Array Value) (hw : ∀ d ∈ tables_1, d.before a0 Z = true) (ws : List Jvm.Cond) (ca : Addr) (kc : ClassId) (cc0 : Int32) (cc1 : Int32) (cc2 : Int32) (cc3 : Int32) (h0 : Heap) (n0 : Nat) (Z0 : n0 ≤ h0.size) (f0 : Arv Z h0 ca kc .char (4 : Int32) [(.int cc0), (.int cc1), (.int cc2), (.int cc3)] (.int (0 : Int32))) (hg0 : ¬ (255 : Int32) < cc0) (hg1 : ¬ (255 : Int32) < cc1) (hg2 : ¬ (255 : Int32) < cc2) (hg3 : ¬ (255 : Int32) < cc3) :
    MetFree l (⟨"java/lang/StringUTF16", "compress", "([CII)[B"⟩ : MethodName) (head1 (Jvm.Cond.code (⟨"java/lang/StringUTF16", "compress", "([CII)[B"⟩ : MethodName) jdk_52_method_16_code 6 (some (.array .byte)) :: ws) ({ frames := 1, cells := 1, slots := 4, locals := 18 } : Room)) (fun a U => a = #[(.ref ca), (.int (0 : Int32)), (.int (4 : Int32))] ∧ Z.Warmed39 U.vm ∧ U.heap = h0) (fun _ _ _ _ _ => True) (fun _ U o U' => ∃ v L, o = .returned v ∧ Q_rm_cmp3_4 Z ca kc cc0 cc1 cc2 cc3 h0 n0 v U'.heap L ∧ FrameEnd U o U' L ({ frames := 1, cells := 1, slots := 4, locals := 18 } : Room).cells ({ frames := 1, cells := 1, slots := 4, locals := 18 } : Room).slots) := by
 refine MetFree.of_bodySF (plainFor_of_name pn_java_lang_StringUTF16) hisR ?_
 intro p e s m args below meth c s₁ Bd hml0 hP hK
 obtain ⟨rfl, hZ, hh⟩ := hP
 have hx := Bd.exec
 have hby := Bd.bytes
 have hml : c.maxLocals = 6 := hml0
 have hown : s.vm.findClass "java/lang/StringUTF16" = some m.cls := findClass_of_methodNamed Bd.named
 have hnm := (name_of_methodNamed Bd.named Bd.method).1
 have X0 : Stand p l e ({ frames := 1, cells := 1, slots := 4, locals := 18 } : Room) s m #[(.ref ca), (.int (0 : Int32)), (.int (4 : Int32))] below meth c s₁ [] 0 0 := Stand.of_body Bd
 have e0 : s₁.heap = h0 := by rw [← hh, Bd.state]; rfl
 have N0 := Fr.nil n0
 have K00 : Keep h0 h0 [] := Keep.refl _ _
 show Rch p e below s₁ (entryFrame m #[(.ref ca), (.int (0 : Int32)), (.int (4 : Int32))] 6) (FinP s (Q_rm_cmp3_4 Z ca kc cc0 cc1 cc2 cc3 h0 n0) 1 4)
 refine Rch.cast (ef_rm_cmp3_4 m ca kc cc0 cc1 cc2 cc3) ?_
 show Rch p e below s₁ (mkF m 0 #[.val (.ref ca), .val (.int 0), .val (.int 4), .unset, .unset, .unset] []) _
 refine w_iloadN (pc' := 1) X0 hx hby djdk52m16_0 rfl rfl ?_
 obtain ⟨T302, h302, kc302, X302, e302, E302, A302, st302⟩ := newP X0 hx hZ (wi hw 11 rfl) e0 (g := (mkF m 1 #[.val (.ref ca), .val (.int 0), .val (.int 4), .unset, .unset, .unset] [(.int 4)])) rfl (hb hby djdk52m16_1) rfl (by decide : ¬ ((4 : Int32) < (0 : Int32))) (cap := 4) (by decide : (4 : Int32).toNatClampNeg ≤ 4) (by decide) (by decide) (by decide)
 obtain ⟨a302, g302⟩ : ∃ z, z = h0.size := ⟨_, rfl⟩
 rw [← g302] at A302 st302
 have ne303 : ca ≠ a302 := by rw [g302]; exact Nat.ne_of_lt f0.lt
 have ge304 : n0 ≤ a302 := Nat.le_trans Z0 (Nat.le_of_eq g302.symm)
 have f306 := f0.ext E302
 have Z307 := Nat.le_trans Z0 E302.1
 have Kp308 : Keep h0 h302 [] := K00.ext E302
 have f309 : Arv Z h302 a302 kc302 .byte (4 : Int32) [(.int (0 : Int32)), (.int (0 : Int32)), (.int (0 : Int32)), (.int (0 : Int32))] (.int (0 : Int32)) := (Arv.new A302 (by decide : ¬ ((4 : Int32) < (0 : Int32)))).pad (pad_rep [] (.int (0 : Int32)) 4)
 refine Rch.st (fun _ k => st302 _ k) ?_
 show Rch p e below T302 (mkF m 3 #[.val (.ref ca), .val (.int 0), .val (.int 4), .unset, .unset, .unset] [(.ref a302)]) _
 refine w_astoreN (pc' := 4) (l' := #[.val (.ref ca), .val (.int 0), .val (.int 4), .val (.ref a302), .unset, .unset]) X302 hx hby djdk52m16_3 rfl rfl rfl ?_
 refine w_aloadN (pc' := 5) X302 hx hby djdk52m16_4 rfl rfl rfl ?_
 refine w_iloadN (pc' := 6) X302 hx hby djdk52m16_5 rfl rfl ?_
 refine w_aloadN (pc' := 7) X302 hx hby djdk52m16_6 rfl rfl rfl ?_
 refine w_iconst (pc' := 8) (v := 0) X302 hx hby djdk52m16_7 rfl rfl ?_
 refine w_iloadN (pc' := 9) X302 hx hby djdk52m16_8 rfl rfl ?_
 obtain ⟨_, _, ⟨T310, L310, k310, n310⟩, -, X310, ⟨Lc310, hQ310, l310, y310, z310⟩, st310⟩ := Jvm.LawKit.callS X302 hx (y := (⟨"java/lang/StringUTF16", "compress", "([CI[BII)I"⟩ : MethodName)) hown (mvT hZ (wi hw 77 rfl)) (mvT hZ (wi hw 78 rfl)) (mvT hZ (wi hw 75 rfl)) (mvT hZ (wi hw 79 rfl)) (by decide) (backOf (W := 0) (rm_cmp5_4 l Z a0 hw [] ca kc a302 kc302 cc0 cc1 cc2 cc3 h302 n0 Z307 f306 f309 (ge304) (ne303) (hg0) (hg1) (hg2) (hg3)) hZ (wi hw 79 rfl) (wi hw 75 rfl) (by decide) (by decide)) (g := (mkF m 9 #[.val (.ref ca), .val (.int 0), .val (.int 4), .val (.ref a302), .unset, .unset] [(.int 4), (.int 0), (.ref a302), (.int 0), (.ref ca)])) rfl (by rw [hml]; rfl) (argsL := [(.ref ca), (.int 0), (.ref a302), (.int 0), (.int 4)]) (rest := []) (lenOf pd___CI_BII_I rfl) rfl (by show 2 * 0 + _ ≤ _; exact Nat.le_of_eq rfl) (hb hby djdk52m16_9) (fun _ _ => ⟨rfl, e302, (by decide : 1 + 0 ≤ _), (by decide : 4 + 0 ≤ _)⟩)
 dsimp only [Pt.U, Pt.locs, Pt.cells, Pt.slots] at X310 l310 y310 z310 st310 hQ310
 subst l310 y310 z310
 obtain ⟨rfl, NQ310, K310, fq310_0⟩ := hQ310
 have N311 := Fr.app N0 NQ310
 have Kp313 : Keep h0 T310.heap [] := Kp308.trans K310 (allS (Or.inr (Nat.le_trans K00.1 (Nat.le_of_eq g302.symm))) all0)
 refine Rch.st (fun _ k => st310 _ k) ?_
 show Rch p e below T310 (mkF m 12 #[.val (.ref ca), .val (.int 0), .val (.int 4), .val (.ref a302), .unset, .unset] [(.int 4)]) _
 refine w_istore (pc' := 14) (l' := #[.val (.ref ca), .val (.int 0), .val (.int 4), .val (.ref a302), .val (.int 4), .unset]) X310 hx hby djdk52m16_12 rfl rfl ?_
 refine w_iload (pc' := 16) X310 hx hby djdk52m16_14 rfl rfl ?_
 refine w_iloadN (pc' := 17) X310 hx hby djdk52m16_16 rfl rfl ?_
 refine w_icmpYes (pc' := 57) X310 hx hby djdk52m16_17 (XT.ii_eq_t (rfl)) (by decide) ?_
 refine w_aloadN (pc' := 58) X310 hx hby djdk52m16_57 rfl rfl rfl ?_
 exact Rch.retV X310 hx Bd.returns rfl (Or.inr (Or.inr (Or.inr (Or.inr ⟨rfl, rfl, rfl⟩)))) (hb hby djdk52m16_58) (by rw [(rfl : T310.heap = T310.heap)]; exact ⟨a302, kc302, rfl, N311, Kp313, (Nat.le_trans K00.1 (Nat.le_of_eq g302.symm)), fq310_0⟩) (by decide) (by decide)

theorem ef_rm_init4_4 (m : MethodId) (G1 : Int32) (a5 : Addr) (ca : Addr) (kc : ClassId) (cc0 : Int32) (cc1 : Int32) (cc2 : Int32) (cc3 : Int32)  : entryFrame m #[(.ref a5), (.ref ca), (.int (0 : Int32)), (.int (4 : Int32)), .null] 6 = mkF m 0 #[.val (.ref a5), .val (.ref ca), .val (.int (0 : Int32)), .val (.int (4 : Int32)), .val .null, .unset] [] := by  first | (simp [entryFrame, mkF, argsToLocals, Value.category, maxLocals]; done) | rfl
def Q_rm_init4_4 (Z : State) (G1 : Int32) (a5 : Addr) (ca : Addr) (kc : ClassId) (cc0 : Int32) (cc1 : Int32) (cc2 : Int32) (cc3 : Int32) (h0 : Heap) (n0 : Nat) (v : Option Value) (h : Heap) (L : List Loc) : Prop := ∃ (t : Addr) (kt : ClassId), (v = none) ∧ (Fr n0 L) ∧ (Keep h0 h [a5]) ∧ (h0.size ≤ t) ∧ (Fld Z h a5 "java/lang/String" "coder" "B" (.int (0 : Int32))) ∧ (Fld Z h a5 "java/lang/String" "value" "[B" (.ref t)) ∧ (Arv Z h t kt .byte (4 : Int32) [(.int (own_by cc0)), (.int (own_by cc1)), (.int (own_by cc2)), (.int (own_by cc3))] (.int (0 : Int32)))
set_option maxRecDepth 65536 in
set_option maxHeartbeats 40000000 in
theorem rm_init4_4 (l : Launch) (Z : State) (a0 : Array Value) (hw : ∀ d ∈ tables_1, d.before a0 Z = true) (ws : List Jvm.Cond) (G1 : Int32) (a5 : Addr) (ca : Addr) (kc : ClassId) (cc0 : Int32) (cc1 : Int32) (cc2 : Int32) (cc3 : Int32) (h0 : Heap) (n0 : Nat) (Z0 : n0 ≤ h0.size) (O2 : Sta Z Z.heap "java/lang/String" "COMPACT_STRINGS" "Z" (.int G1)) (P5 : ¬ G1 = 0) (f2 : Exa Z h0 a5 "java/lang/String") (f3 : Fld Z h0 a5 "java/lang/String" "coder" "B" (.int (0 : Int32))) (f4 : Fld Z h0 a5 "java/lang/String" "value" "[B" .null) (f5 : Arv Z h0 ca kc .char (4 : Int32) [(.int cc0), (.int cc1), (.int cc2), (.int cc3)] (.int (0 : Int32))) (ga : n0 ≤ a5) (nca : a5 ≠ ca) (hg0 : ¬ (255 : Int32) < cc0) (hg1 : ¬ (255 : Int32) < cc1) (hg2 : ¬ (255 : Int32) < cc2) (hg3 : ¬ (255 : Int32) < cc3) (Old0 : OldL Z n0 h0) :
    MetFree l (⟨"java/lang/String", "<init>", "([CIILjava/lang/Void;)V"⟩ : MethodName) (head1 (Jvm.Cond.code (⟨"java/lang/String", "<init>", "([CIILjava/lang/Void;)V"⟩ : MethodName) jdk_42_method_149_code 6 none :: ws) ({ frames := 2, cells := 1, slots := 4, locals := 35 } : Room)) (fun a U => a = #[(.ref a5), (.ref ca), (.int (0 : Int32)), (.int (4 : Int32)), .null] ∧ Z.Warmed39 U.vm ∧ U.heap = h0) (fun _ _ _ _ _ => True) (fun _ U o U' => ∃ v L, o = .returned v ∧ Q_rm_init4_4 Z G1 a5 ca kc cc0 cc1 cc2 cc3 h0 n0 v U'.heap L ∧ FrameEnd U o U' L ({ frames := 2, cells := 1, slots := 4, locals := 35 } : Room).cells ({ frames := 2, cells := 1, slots := 4, locals := 35 } : Room).slots) := by
 refine MetFree.of_bodySF (plainFor_of_name pn_java_lang_String) hisR ?_
 intro p e s m args below meth c s₁ Bd hml0 hP hK
 obtain ⟨rfl, hZ, hh⟩ := hP
 have hx := Bd.exec
 have hby := Bd.bytes
 have hml : c.maxLocals = 6 := hml0
 have hown : s.vm.findClass "java/lang/String" = some m.cls := findClass_of_methodNamed Bd.named
 have hnm := (name_of_methodNamed Bd.named Bd.method).1
 have X0 : Stand p l e ({ frames := 2, cells := 1, slots := 4, locals := 35 } : Room) s m #[(.ref a5), (.ref ca), (.int (0 : Int32)), (.int (4 : Int32)), .null] below meth c s₁ [] 0 0 := Stand.of_body Bd
 have e0 : s₁.heap = h0 := by rw [← hh, Bd.state]; rfl
 have N0 := Fr.nil n0
 have K00 : Keep h0 h0 [a5] := Keep.refl _ _
 show Rch p e below s₁ (entryFrame m #[(.ref a5), (.ref ca), (.int (0 : Int32)), (.int (4 : Int32)), .null] 6) (FinP s (Q_rm_init4_4 Z G1 a5 ca kc cc0 cc1 cc2 cc3 h0 n0) 1 4)
 refine Rch.cast (ef_rm_init4_4 m G1 a5 ca kc cc0 cc1 cc2 cc3) ?_
 show Rch p e below s₁ (mkF m 0 #[.val (.ref a5), .val (.ref ca), .val (.int 0), .val (.int 4), .val .null, .unset] []) _
 refine w_aloadN (pc' := 1) X0 hx hby djdk42m149_0 rfl rfl rfl ?_
 obtain ⟨T315, X315, e315, st315⟩ := initO X0 hx hZ hown (wi hw 70 rfl) (wi hw 71 rfl) (wi hw 72 rfl) e0 (g := (mkF m 1 #[.val (.ref a5), .val (.ref ca), .val (.int 0), .val (.int 4), .val .null, .unset] [(.ref a5)])) rfl (by rw [hml]; rfl) rfl (hb hby djdk42m149_1) (by decide) (W := 0) (by show 2 * 0 + _ ≤ _; exact Nat.le_of_eq rfl) (by decide)
 refine Rch.st (fun _ k => st315 _ k) ?_
 show Rch p e below T315 (mkF m 4 #[.val (.ref a5), .val (.ref ca), .val (.int 0), .val (.int 4), .val .null, .unset] []) _
 refine w_iloadN (pc' := 5) X315 hx hby djdk42m149_4 rfl rfl ?_
 refine w_ifYes (pc' := 27) X315 hx hby djdk42m149_5 (XT.i0_ne_t (by decide)) (by decide) ?_
 obtain ⟨T316, X316, e316, st316⟩ := getS X315 hx hZ hown (host := "") (wi hw 36 rfl) Via.refl e315 (O2.ext Old0.2) (g := (mkF m 27 #[.val (.ref a5), .val (.ref ca), .val (.int 0), .val (.int 4), .val .null, .unset] [])) rfl (hb hby djdk42m149_27)
 refine Rch.st (fun _ k => st316 _ k) ?_
 show Rch p e below T316 (mkF m 30 #[.val (.ref a5), .val (.ref ca), .val (.int 0), .val (.int 4), .val .null, .unset] [(.int G1)]) _
 refine w_ifNo (pc' := 33) X316 hx hby djdk42m149_30 (XT.i0_eq_f (P5)) rfl ?_
 refine w_aloadN (pc' := 34) X316 hx hby djdk42m149_33 rfl rfl rfl ?_
 refine w_iloadN (pc' := 35) X316 hx hby djdk42m149_34 rfl rfl ?_
 refine w_iloadN (pc' := 36) X316 hx hby djdk42m149_35 rfl rfl ?_
 obtain ⟨_, _, ⟨T317, L317, k317, n317⟩, -, X317, ⟨Lc317, hQ317, l317, y317, z317⟩, st317⟩ := Jvm.LawKit.callS X316 hx (y := (⟨"java/lang/StringUTF16", "compress", "([CII)[B"⟩ : MethodName)) hown (mvT hZ (wi hw 73 rfl)) (mvT hZ (wi hw 74 rfl)) (mvT hZ (wi hw 75 rfl)) (mvT hZ (wi hw 76 rfl)) (by decide) (backOf (W := 0) (rm_cmp3_4 l Z a0 hw [] ca kc cc0 cc1 cc2 cc3 h0 n0 Z0 f5 (hg0) (hg1) (hg2) (hg3)) hZ (wi hw 76 rfl) (wi hw 75 rfl) (by decide) (by decide)) (g := (mkF m 36 #[.val (.ref a5), .val (.ref ca), .val (.int 0), .val (.int 4), .val .null, .unset] [(.int 4), (.int 0), (.ref ca)])) rfl (by rw [hml]; rfl) (argsL := [(.ref ca), (.int 0), (.int 4)]) (rest := []) (lenOf pd___CII__B rfl) rfl (by show 2 * 0 + _ ≤ _; exact Nat.le_of_eq rfl) (hb hby djdk42m149_36) (fun _ _ => ⟨rfl, e316, (by decide : 0 + 1 ≤ _), (by decide : 0 + 4 ≤ _)⟩)
 dsimp only [Pt.U, Pt.locs, Pt.cells, Pt.slots] at X317 l317 y317 z317 st317 hQ317
 subst l317 y317 z317
 obtain ⟨t_317, kt_317, rfl, NQ317, K317, pq317_0, fq317_0⟩ := hQ317
 have N318 := Fr.app N0 NQ317
 have ne319 := nlt f2.lt pq317_0
 have f322 := f2.keep K317
 have f323 := f3.keep K317 nin0
 have f324 := f4.keep K317 nin0
 have Kp327 : Keep h0 T317.heap [a5] := K00.trans K317 all0
 have Z328 := Nat.le_trans Z0 K317.1
 refine Rch.st (fun _ k => st317 _ k) ?_
 show Rch p e below T317 (mkF m 39 #[.val (.ref a5), .val (.ref ca), .val (.int 0), .val (.int 4), .val .null, .unset] [(.ref t_317)]) _
 refine w_astore (pc' := 41) (l' := #[.val (.ref a5), .val (.ref ca), .val (.int 0), .val (.int 4), .val .null, .val (.ref t_317)]) X317 hx hby djdk42m149_39 rfl rfl rfl ?_
 refine w_aloadN (pc' := 42) X317 hx hby djdk42m149_41 rfl rfl rfl ?_
 refine w_aload (pc' := 44) X317 hx hby djdk42m149_42 rfl rfl rfl ?_
 refine w_iloadN (pc' := 45) X317 hx hby djdk42m149_44 rfl rfl ?_
 obtain ⟨_, _, ⟨T329, L329, k329, n329⟩, -, X329, ⟨Lc329, hQ329, l329, y329, z329⟩, st329⟩ := Jvm.LawKit.callS X317 hx (y := (⟨"java/lang/StringUTF16", "coderFromArrayLen", "([BI)B"⟩ : MethodName)) hown (mvT hZ (wi hw 80 rfl)) (mvT hZ (wi hw 81 rfl)) (mvT hZ (wi hw 75 rfl)) (mvT hZ (wi hw 82 rfl)) (by decide) (backOf (W := 1) (rm_cfl l Z a0 hw [] t_317 kt_317 4 4 ([(.int (own_by cc0)), (.int (own_by cc1)), (.int (own_by cc2)), (.int (own_by cc3))]) (.int 0) T317.heap n0 Z328 fq317_0) hZ (wi hw 82 rfl) (wi hw 75 rfl) (by decide) (by decide)) (g := (mkF m 45 #[.val (.ref a5), .val (.ref ca), .val (.int 0), .val (.int 4), .val .null, .val (.ref t_317)] [(.int 4), (.ref t_317), (.ref a5)])) rfl (by rw [hml]; rfl) (argsL := [(.ref t_317), (.int 4)]) (rest := [(.ref a5)]) (lenOf pd___BI_B rfl) rfl (by show 2 * 0 + _ ≤ _; exact Nat.le_of_eq rfl) (hb hby djdk42m149_45) (fun _ _ => ⟨rfl, (rfl : T317.heap = T317.heap), (by decide : 1 + 0 ≤ _), (by decide : 4 + 0 ≤ _)⟩)
 dsimp only [Pt.U, Pt.locs, Pt.cells, Pt.slots] at X329 l329 y329 z329 st329 hQ329
 subst l329 y329 z329
 obtain ⟨rfl, NQ329, K329⟩ := hQ329
 have N330 := Fr.app N318 NQ329
 refine Rch.st (fun _ k => st329 _ k) ?_
 show Rch p e below T329 (mkF m 48 #[.val (.ref a5), .val (.ref ca), .val (.int 0), .val (.int 4), .val .null, .val (.ref t_317)] [(.int ((XT.ushr ((4 : Int32) - (4 : Int32)) (31 : Int32))).toInt8.toInt32), (.ref a5)]) _
 have r331 : ((XT.ushr ((4 : Int32) - (4 : Int32)) (31 : Int32))).toInt8.toInt32 = (0 : Int32) := by decide
 rw [r331]
 show Rch p e below T329 (mkF m 48 #[.val (.ref a5), .val (.ref ca), .val (.int 0), .val (.int 4), .val .null, .val (.ref t_317)] [(.int 0), (.ref a5)]) _
 obtain ⟨T332, h332, X332, e332, W332, st332⟩ := putF X329 hx hZ hown (host := "") (Or.inl (wi hw 37 rfl)) Via.refl K329 f323 f322 (Or.inr ⟨(wi hw 13 rfl), rfl, hnm⟩) (wi hw 10 rfl) (ty := .byte) (by decide) rfl rfl (g := (mkF m 48 #[.val (.ref a5), .val (.ref ca), .val (.int 0), .val (.int 4), .val .null, .val (.ref t_317)] [(.int 0), (.ref a5)])) rfl rfl (hb hby djdk42m149_48)
 have N333 := Fr.snoc X332 N330 ga
 have f334 := f322.wr W332
 have f335 := f323.same W332
 have f336 := f324.other W332 (Or.inr (slot_ne (t := (.array .byte)) (t' := .byte) (Or.inr (wi hw 12 rfl)) (Or.inr (wi hw 13 rfl)) (by decide) (by decide) (by decide)))
 have f338 := fq317_0.other W332 (Ne.symm ne319)
 have Kp341 : Keep h0 h332 [a5] := Kp327.wr W332 (Or.inl (List.mem_of_getElem? (i := 0) rfl))
 refine Rch.st (fun _ k => st332 _ k) ?_
 show Rch p e below T332 (mkF m 51 #[.val (.ref a5), .val (.ref ca), .val (.int 0), .val (.int 4), .val .null, .val (.ref t_317)] []) _
 refine w_aloadN (pc' := 52) X332 hx hby djdk42m149_51 rfl rfl rfl ?_
 refine w_aload (pc' := 54) X332 hx hby djdk42m149_52 rfl rfl rfl ?_
 obtain ⟨T342, h342, X342, e342, W342, st342⟩ := putF X332 hx hZ hown (host := "") (Or.inl (wi hw 30 rfl)) Via.refl e332 f336 f334 (Or.inr ⟨(wi hw 12 rfl), rfl, hnm⟩) (wi hw 10 rfl) (ty := (.array .byte)) (by decide) rfl rfl (g := (mkF m 54 #[.val (.ref a5), .val (.ref ca), .val (.int 0), .val (.int 4), .val .null, .val (.ref t_317)] [(.ref t_317), (.ref a5)])) rfl rfl (hb hby djdk42m149_54)
 have N343 := Fr.snoc X342 N333 ga
 have f345 := f335.other W342 (Or.inr (slot_ne (t := .byte) (t' := (.array .byte)) (Or.inr (wi hw 13 rfl)) (Or.inr (wi hw 12 rfl)) (by decide) (by decide) (by decide)))
 have f346 := f336.same W342
 have f348 := f338.other W342 (Ne.symm ne319)
 have Kp351 : Keep h0 h342 [a5] := Kp341.wr W342 (Or.inl (List.mem_of_getElem? (i := 0) rfl))
 refine Rch.st (fun _ k => st342 _ k) ?_
 show Rch p e below T342 (mkF m 57 #[.val (.ref a5), .val (.ref ca), .val (.int 0), .val (.int 4), .val .null, .val (.ref t_317)] []) _
 exact Rch.ret0 X342 hx Bd.returns (hb hby djdk42m149_57) (by rw [e342]; exact ⟨t_317, kt_317, rfl, N343, Kp351, (Nat.le_trans K00.1 pq317_0), f345, f346, f348⟩) (by decide) (by decide)

theorem ef_rm_init1_4 (m : MethodId) (G1 : Int32) (a5 : Addr) (ca : Addr) (kc : ClassId) (cc0 : Int32) (cc1 : Int32) (cc2 : Int32) (cc3 : Int32)  : entryFrame m #[(.ref a5), (.ref ca)] 2 = mkF m 0 #[.val (.ref a5), .val (.ref ca)] [] := by  first | (simp [entryFrame, mkF, argsToLocals, Value.category, maxLocals]; done) | rfl
def Q_rm_init1_4 (Z : State) (G1 : Int32) (a5 : Addr) (ca : Addr) (kc : ClassId) (cc0 : Int32) (cc1 : Int32) (cc2 : Int32) (cc3 : Int32) (h0 : Heap) (n0 : Nat) (v : Option Value) (h : Heap) (L : List Loc) : Prop := ∃ (t : Addr) (kt : ClassId), (v = none) ∧ (Fr n0 L) ∧ (Keep h0 h [a5]) ∧ (h0.size ≤ t) ∧ (Fld Z h a5 "java/lang/String" "coder" "B" (.int (0 : Int32))) ∧ (Fld Z h a5 "java/lang/String" "value" "[B" (.ref t)) ∧ (Arv Z h t kt .byte (4 : Int32) [(.int (own_by cc0)), (.int (own_by cc1)), (.int (own_by cc2)), (.int (own_by cc3))] (.int (0 : Int32)))
set_option maxRecDepth 65536 in
set_option maxHeartbeats 40000000 in
theorem rm_init1_4 (l : Launch) (Z : State) (a0 : Array Value) (hw : ∀ d ∈ tables_1, d.before a0 Z = true) (ws : List Jvm.Cond) (G1 : Int32) (a5 : Addr) (ca : Addr) (kc : ClassId) (cc0 : Int32) (cc1 : Int32) (cc2 : Int32) (cc3 : Int32) (h0 : Heap) (n0 : Nat) (Z0 : n0 ≤ h0.size) (O2 : Sta Z Z.heap "java/lang/String" "COMPACT_STRINGS" "Z" (.int G1)) (P5 : ¬ G1 = 0) (f2 : Exa Z h0 a5 "java/lang/String") (f3 : Fld Z h0 a5 "java/lang/String" "coder" "B" (.int (0 : Int32))) (f4 : Fld Z h0 a5 "java/lang/String" "value" "[B" .null) (f5 : Arv Z h0 ca kc .char (4 : Int32) [(.int cc0), (.int cc1), (.int cc2), (.int cc3)] (.int (0 : Int32))) (ga : n0 ≤ a5) (nca : a5 ≠ ca) (hg0 : ¬ (255 : Int32) < cc0) (hg1 : ¬ (255 : Int32) < cc1) (hg2 : ¬ (255 : Int32) < cc2) (hg3 : ¬ (255 : Int32) < cc3) (Old0 : OldL Z n0 h0) :
    MetFree l (⟨"java/lang/String", "<init>", "([C)V"⟩ : MethodName) (head1 (Jvm.Cond.code (⟨"java/lang/String", "<init>", "([C)V"⟩ : MethodName) jdk_42_method_3_code 2 none :: ws) ({ frames := 3, cells := 1, slots := 4, locals := 52 } : Room)) (fun a U => a = #[(.ref a5), (.ref ca)] ∧ Z.Warmed39 U.vm ∧ U.heap = h0) (fun _ _ _ _ _ => True) (fun _ U o U' => ∃ v L, o = .returned v ∧ Q_rm_init1_4 Z G1 a5 ca kc cc0 cc1 cc2 cc3 h0 n0 v U'.heap L ∧ FrameEnd U o U' L ({ frames := 3, cells := 1, slots := 4, locals := 52 } : Room).cells ({ frames := 3, cells := 1, slots := 4, locals := 52 } : Room).slots) := by
 refine MetFree.of_bodySF (plainFor_of_name pn_java_lang_String) hisR ?_
 intro p e s m args below meth c s₁ Bd hml0 hP hK
 obtain ⟨rfl, hZ, hh⟩ := hP
 have hx := Bd.exec
 have hby := Bd.bytes
 have hml : c.maxLocals = 2 := hml0
 have hown : s.vm.findClass "java/lang/String" = some m.cls := findClass_of_methodNamed Bd.named
 have hnm := (name_of_methodNamed Bd.named Bd.method).1
 have X0 : Stand p l e ({ frames := 3, cells := 1, slots := 4, locals := 52 } : Room) s m #[(.ref a5), (.ref ca)] below meth c s₁ [] 0 0 := Stand.of_body Bd
 have e0 : s₁.heap = h0 := by rw [← hh, Bd.state]; rfl
 have N0 := Fr.nil n0
 have K00 : Keep h0 h0 [a5] := Keep.refl _ _
 show Rch p e below s₁ (entryFrame m #[(.ref a5), (.ref ca)] 2) (FinP s (Q_rm_init1_4 Z G1 a5 ca kc cc0 cc1 cc2 cc3 h0 n0) 1 4)
 refine Rch.cast (ef_rm_init1_4 m G1 a5 ca kc cc0 cc1 cc2 cc3) ?_
 show Rch p e below s₁ (mkF m 0 #[.val (.ref a5), .val (.ref ca)] []) _
 refine w_aloadN (pc' := 1) X0 hx hby djdk42m3_0 rfl rfl rfl ?_
 refine w_aloadN (pc' := 2) X0 hx hby djdk42m3_1 rfl rfl rfl ?_
 refine w_iconst (pc' := 3) (v := 0) X0 hx hby djdk42m3_2 rfl rfl ?_
 refine w_aloadN (pc' := 4) X0 hx hby djdk42m3_3 rfl rfl rfl ?_
 refine Rch.st (fun _ k => own_alen X0 hx hZ e0 f5 rfl rfl (hb hby djdk42m3_4) k) ?_
 show Rch p e below s₁ (mkF m 5 #[.val (.ref a5), .val (.ref ca)] [(.int 4), (.int 0), (.ref ca), (.ref a5)]) _
 refine w_aconstNull (pc' := 6) X0 hx hby djdk42m3_5 rfl ?_
 obtain ⟨_, _, ⟨T352, L352, k352, n352⟩, -, X352, ⟨Lc352, hQ352, l352, y352, z352⟩, st352⟩ := X0.specialBack hx (y := (⟨"java/lang/String", "<init>", "([CIILjava/lang/Void;)V"⟩ : MethodName)) rfl hown (mvT hZ (wi hw 66 rfl)) (mvT hZ (wi hw 67 rfl)) (mvT hZ (wi hw 69 rfl)) (by decide) (backOf (W := 0) (rm_init4_4 l Z a0 hw [] G1 a5 ca kc cc0 cc1 cc2 cc3 h0 n0 Z0 (O2) (P5) f2 f3 f4 f5 (ga) (nca) (hg0) (hg1) (hg2) (hg3) Old0) hZ (wi hw 69 rfl) (wi hw 9 rfl) (by decide) (by decide)) (g := (mkF m 6 #[.val (.ref a5), .val (.ref ca)] [.null, (.int 4), (.int 0), (.ref ca), (.ref a5)])) rfl (by rw [hml]; rfl) (Steps.refl _) (a := a5) (argsL := [(.ref ca), (.int 0), (.int 4), .null]) (rest := []) (lenOf pd___CIILjava_lang_Void__V rfl) rfl (by show 2 * 0 + _ ≤ _; exact Nat.le_of_eq rfl) (hb hby djdk42m3_6) (fun _ _ => ⟨rfl, e0, (by decide : 0 + 1 ≤ _), (by decide : 0 + 4 ≤ _)⟩)
 dsimp only [Pt.U, Pt.locs, Pt.cells, Pt.slots] at X352 l352 y352 z352 st352 hQ352
 subst l352 y352 z352
 obtain ⟨t_352, kt_352, rfl, NQ352, K352, pq352_0, fq352_0, fq352_1, fq352_2⟩ := hQ352
 have N353 := Fr.app N0 NQ352
 have Kp360 : Keep h0 T352.heap [a5] := K00.trans K352 (allS (Or.inl (List.mem_of_getElem? (i := 0) rfl)) all0)
 refine Rch.st (fun _ k => st352.trans k) ?_
 show Rch p e below T352 (mkF m 9 #[.val (.ref a5), .val (.ref ca)] []) _
 exact Rch.ret0 X352 hx Bd.returns (hb hby djdk42m3_9) (by rw [(rfl : T352.heap = T352.heap)]; exact ⟨t_352, kt_352, rfl, N353, Kp360, (Nat.le_trans K00.1 pq352_0), fq352_0, fq352_1, fq352_2⟩) (by decide) (by decide)

theorem ef_rm_cmp5_5 (m : MethodId) (ca : Addr) (kc : ClassId) (bd : Addr) (kd : ClassId) (cc0 : Int32) (cc1 : Int32) (cc2 : Int32) (cc3 : Int32) (cc4 : Int32)  : entryFrame m #[(.ref ca), (.int (0 : Int32)), (.ref bd), (.int (0 : Int32)), (.int (5 : Int32))] 7 = mkF m 0 #[.val (.ref ca), .val (.int (0 : Int32)), .val (.ref bd), .val (.int (0 : Int32)), .val (.int (5 : Int32)), .unset, .unset] [] := by  first | (simp [entryFrame, mkF, argsToLocals, Value.category, maxLocals]; done) | rfl
def Q_rm_cmp5_5 (Z : State) (ca : Addr) (kc : ClassId) (bd : Addr) (kd : ClassId) (cc0 : Int32) (cc1 : Int32) (cc2 : Int32) (cc3 : Int32) (cc4 : Int32) (h0 : Heap) (n0 : Nat) (v : Option Value) (h : Heap) (L : List Loc) : Prop := (v = some (.int (5 : Int32))) ∧ (Fr n0 L) ∧ (Keep h0 h [bd]) ∧ (Arv Z h bd kd .byte (5 : Int32) [(.int (own_by cc0)), (.int (own_by cc1)), (.int (own_by cc2)), (.int (own_by cc3)), (.int (own_by cc4))] (.int (0 : Int32)))
set_option maxRecDepth 65536 in
set_option maxHeartbeats 40000000 in
theorem rm_cmp5_5 (l : Launch) (Z : State) (a0 : Array Value) (hw : ∀ d ∈ tables_1, d.before a0 Z = true) (ws : List Jvm.Cond) (ca : Addr) (kc : ClassId) (bd : Addr) (kd : ClassId) (cc0 : Int32) (cc1 : Int32) (cc2 : Int32) (cc3 : Int32) (cc4 : Int32) (h0 : Heap) (n0 : Nat) (Z0 : n0 ≤ h0.size) (f0 : Arv Z h0 ca kc .char (5 : Int32) [(.int cc0), (.int cc1), (.int cc2), (.int cc3), (.int cc4)] (.int (0 : Int32))) (f1 : Arv Z h0 bd kd .byte (5 : Int32) [(.int (0 : Int32)), (.int (0 : Int32)), (.int (0 : Int32)), (.int (0 : Int32)), (.int (0 : Int32))] (.int (0 : Int32))) (gd : n0 ≤ bd) (ncd : ca ≠ bd) (hg0 : ¬ (255 : Int32) < cc0) (hg1 : ¬ (255 : Int32) < cc1) (hg2 : ¬ (255 : Int32) < cc2) (hg3 : ¬ (255 : Int32) < cc3) (hg4 : ¬ (255 : Int32) < cc4) :
    MetFree l (⟨"java/lang/StringUTF16", "compress", "([CI[BII)I"⟩ : MethodName) (head1 (Jvm.Cond.code (⟨"java/lang/StringUTF16", "compress", "([CI[BII)I"⟩ : MethodName) jdk_52_method_21_code 7 (some .int) :: ws) ({ frames := 0, cells := 0, slots := 0, locals := 0 } : Room)) (fun a U => a = #[(.ref ca), (.int (0 : Int32)), (.ref bd), (.int (0 : Int32)), (.int (5 : Int32))] ∧ Z.Warmed39 U.vm ∧ U.heap = h0) (fun _ _ _ _ _ => True) (fun _ U o U' => ∃ v L, o = .returned v ∧ Q_rm_cmp5_5 Z ca kc bd kd cc0 cc1 cc2 cc3 cc4 h0 n0 v U'.heap L ∧ FrameEnd U o U' L ({ frames := 0, cells := 0, slots := 0, locals := 0 } : Room).cells ({ frames := 0, cells := 0, slots := 0, locals := 0 } : Room).slots) := by
 refine MetFree.of_bodySF (plainFor_of_name pn_java_lang_StringUTF16) hisR ?_
 intro p e s m args below meth c s₁ Bd hml0 hP hK
 obtain ⟨rfl, hZ, hh⟩ := hP
 have hx := Bd.exec
 have hby := Bd.bytes
 have hml : c.maxLocals = 7 := hml0
 have hown : s.vm.findClass "java/lang/StringUTF16" = some m.cls := findClass_of_methodNamed Bd.named
 have hnm := (name_of_methodNamed Bd.named Bd.method).1
 have X0 : Stand p l e ({ frames := 0, cells := 0, slots := 0, locals := 0 } : Room) s m #[(.ref ca), (.int (0 : Int32)), (.ref bd), (.int (0 : Int32)), (.int (5 : Int32))] below meth c s₁ [] 0 0 := Stand.of_body Bd
 have e0 : s₁.heap = h0 := by rw [← hh, Bd.state]; rfl
 have N0 := Fr.nil n0
 have K00 : Keep h0 h0 [bd] := Keep.refl _ _
 show Rch p e below s₁ (entryFrame m #[(.ref ca), (.int (0 : Int32)), (.ref bd), (.int (0 : Int32)), (.int (5 : Int32))] 7) (FinP s (Q_rm_cmp5_5 Z ca kc bd kd cc0 cc1 cc2 cc3 cc4 h0 n0) 0 0)
 refine Rch.cast (ef_rm_cmp5_5 m ca kc bd kd cc0 cc1 cc2 cc3 cc4) ?_
 show Rch p e below s₁ (mkF m 0 #[.val (.ref ca), .val (.int 0), .val (.ref bd), .val (.int 0), .val (.int 5), .unset, .unset] []) _
 refine w_iconst (pc' := 1) (v := 0) X0 hx hby djdk52m21_0 rfl rfl ?_
 refine w_istore (pc' := 3) (l' := #[.val (.ref ca), .val (.int 0), .val (.ref bd), .val (.int 0), .val (.int 5), .val (.int 0), .unset]) X0 hx hby djdk52m21_1 rfl rfl ?_
 refine w_iload (pc' := 5) X0 hx hby djdk52m21_3 rfl rfl ?_
 refine w_iload (pc' := 7) X0 hx hby djdk52m21_5 rfl rfl ?_
 refine w_icmpNo (pc' := 10) X0 hx hby djdk52m21_7 (XT.ii_ge_f (by decide)) rfl ?_
 refine w_aloadN (pc' := 11) X0 hx hby djdk52m21_10 rfl rfl rfl ?_
 refine w_iloadN (pc' := 12) X0 hx hby djdk52m21_11 rfl rfl ?_
 refine Rch.st (fun _ k => own_ldC X0 hx hZ e0 f0 (j := (0 : Int32)) ⟨by decide, by decide⟩ (by rfl) rfl rfl (hb hby djdk52m21_12) k) ?_
 show Rch p e below s₁ (mkF m 13 #[.val (.ref ca), .val (.int 0), .val (.ref bd), .val (.int 0), .val (.int 5), .val (.int 0), .unset] [(.int cc0)]) _
 refine w_istore (pc' := 15) (l' := #[.val (.ref ca), .val (.int 0), .val (.ref bd), .val (.int 0), .val (.int 5), .val (.int 0), .val (.int cc0)]) X0 hx hby djdk52m21_13 rfl rfl ?_
 refine w_iload (pc' := 17) X0 hx hby djdk52m21_15 rfl rfl ?_
 refine w_sipush (pc' := 20) (v := 255) X0 hx hby djdk52m21_17 rfl rfl ?_
 refine w_icmpYes (pc' := 26) X0 hx hby djdk52m21_20 (XT.ii_le_t (hg0)) (by decide) ?_
 refine w_aloadN (pc' := 27) X0 hx hby djdk52m21_26 rfl rfl rfl ?_
 refine w_iloadN (pc' := 28) X0 hx hby djdk52m21_27 rfl rfl ?_
 refine w_iload (pc' := 30) X0 hx hby djdk52m21_28 rfl rfl ?_
 refine w_i2b (pc' := 31) X0 hx hby djdk52m21_30 rfl ?_
 obtain ⟨T362, h362, X362, e362, W362, V362, st362⟩ := own_stB X0 hx hZ e0 f1 (j := (0 : Int32)) ⟨by decide, by decide⟩ 0 (by decide) (by decide : 0 < 5) (g := (mkF m 31 #[.val (.ref ca), .val (.int 0), .val (.ref bd), .val (.int 0), .val (.int 5), .val (.int 0), .val (.int cc0)] [(.int (cc0).toInt8.toInt32), (.int 0), (.ref bd)])) rfl rfl (hb hby djdk52m21_31)
 have N363 := Fr.snoc X362 N0 gd
 have f364 := f0.other W362 ncd
 have Kp366 : Keep h0 h362 [bd] := K00.wr W362 (Or.inl (List.mem_of_getElem? (i := 0) rfl))
 have f367 : Arv Z h362 bd kd .byte (5 : Int32) [(.int ((cc0).toInt8.toInt32).toInt8.toInt32), (.int (0 : Int32)), (.int (0 : Int32)), (.int (0 : Int32)), (.int (0 : Int32))] (.int (0 : Int32)) := V362
 refine Rch.st (fun _ k => st362 _ k) ?_
 show Rch p e below T362 (mkF m 32 #[.val (.ref ca), .val (.int 0), .val (.ref bd), .val (.int 0), .val (.int 5), .val (.int 0), .val (.int cc0)] []) _
 refine w_iinc (pc' := 35) (w := (1 : Int32)) (l' := #[.val (.ref ca), .val (.int (1 : Int32)), .val (.ref bd), .val (.int (0 : Int32)), .val (.int (5 : Int32)), .val (.int (0 : Int32)), .val (.int cc0)]) X362 hx hby djdk52m21_32 rfl (by decide) rfl rfl ?_
 refine w_iinc (pc' := 38) (w := (1 : Int32)) (l' := #[.val (.ref ca), .val (.int (1 : Int32)), .val (.ref bd), .val (.int (1 : Int32)), .val (.int (5 : Int32)), .val (.int (0 : Int32)), .val (.int cc0)]) X362 hx hby djdk52m21_35 rfl (by decide) rfl rfl ?_
 refine w_iinc (pc' := 41) (w := (1 : Int32)) (l' := #[.val (.ref ca), .val (.int (1 : Int32)), .val (.ref bd), .val (.int (1 : Int32)), .val (.int (5 : Int32)), .val (.int (1 : Int32)), .val (.int cc0)]) X362 hx hby djdk52m21_38 rfl (by decide) rfl rfl ?_
 refine w_goto (pc' := 3) X362 hx hby djdk52m21_41 (by decide) ?_
 refine w_iload (pc' := 5) X362 hx hby djdk52m21_3 rfl rfl ?_
 refine w_iload (pc' := 7) X362 hx hby djdk52m21_5 rfl rfl ?_
 refine w_icmpNo (pc' := 10) X362 hx hby djdk52m21_7 (XT.ii_ge_f (by decide)) rfl ?_
 refine w_aloadN (pc' := 11) X362 hx hby djdk52m21_10 rfl rfl rfl ?_
 refine w_iloadN (pc' := 12) X362 hx hby djdk52m21_11 rfl rfl ?_
 refine Rch.st (fun _ k => own_ldC X362 hx hZ e362 f364 (j := (1 : Int32)) ⟨by decide, by decide⟩ (by rfl) rfl rfl (hb hby djdk52m21_12) k) ?_
 show Rch p e below T362 (mkF m 13 #[.val (.ref ca), .val (.int 1), .val (.ref bd), .val (.int 1), .val (.int 5), .val (.int 1), .val (.int cc0)] [(.int cc1)]) _
 refine w_istore (pc' := 15) (l' := #[.val (.ref ca), .val (.int 1), .val (.ref bd), .val (.int 1), .val (.int 5), .val (.int 1), .val (.int cc1)]) X362 hx hby djdk52m21_13 rfl rfl ?_
 refine w_iload (pc' := 17) X362 hx hby djdk52m21_15 rfl rfl ?_
 refine w_sipush (pc' := 20) (v := 255) X362 hx hby djdk52m21_17 rfl rfl ?_
 refine w_icmpYes (pc' := 26) X362 hx hby djdk52m21_20 (XT.ii_le_t (hg1)) (by decide) ?_
 refine w_aloadN (pc' := 27) X362 hx hby djdk52m21_26 rfl rfl rfl ?_
 refine w_iloadN (pc' := 28) X362 hx hby djdk52m21_27 rfl rfl ?_
 refine w_iload (pc' := 30) X362 hx hby djdk52m21_28 rfl rfl ?_
 refine w_i2b (pc' := 31) X362 hx hby djdk52m21_30 rfl ?_
 obtain ⟨T368, h368, X368, e368, W368, V368, st368⟩ := own_stB X362 hx hZ e362 f367 (j := (1 : Int32)) ⟨by decide, by decide⟩ 1 (by decide) (by decide : 1 < 5) (g := (mkF m 31 #[.val (.ref ca), .val (.int 1), .val (.ref bd), .val (.int 1), .val (.int 5), .val (.int 1), .val (.int cc1)] [(.int (cc1).toInt8.toInt32), (.int 1), (.ref bd)])) rfl rfl (hb hby djdk52m21_31)
 have N369 := Fr.snoc X368 N363 gd
 have f370 := f364.other W368 ncd
 have Kp372 : Keep h0 h368 [bd] := Kp366.wr W368 (Or.inl (List.mem_of_getElem? (i := 0) rfl))
 have f373 : Arv Z h368 bd kd .byte (5 : Int32) [(.int ((cc0).toInt8.toInt32).toInt8.toInt32), (.int ((cc1).toInt8.toInt32).toInt8.toInt32), (.int (0 : Int32)), (.int (0 : Int32)), (.int (0 : Int32))] (.int (0 : Int32)) := V368
 refine Rch.st (fun _ k => st368 _ k) ?_
 show Rch p e below T368 (mkF m 32 #[.val (.ref ca), .val (.int 1), .val (.ref bd), .val (.int 1), .val (.int 5), .val (.int 1), .val (.int cc1)] []) _
 refine w_iinc (pc' := 35) (w := (2 : Int32)) (l' := #[.val (.ref ca), .val (.int (2 : Int32)), .val (.ref bd), .val (.int (1 : Int32)), .val (.int (5 : Int32)), .val (.int (1 : Int32)), .val (.int cc1)]) X368 hx hby djdk52m21_32 rfl (by decide) rfl rfl ?_
 refine w_iinc (pc' := 38) (w := (2 : Int32)) (l' := #[.val (.ref ca), .val (.int (2 : Int32)), .val (.ref bd), .val (.int (2 : Int32)), .val (.int (5 : Int32)), .val (.int (1 : Int32)), .val (.int cc1)]) X368 hx hby djdk52m21_35 rfl (by decide) rfl rfl ?_
 refine w_iinc (pc' := 41) (w := (2 : Int32)) (l' := #[.val (.ref ca), .val (.int (2 : Int32)), .val (.ref bd), .val (.int (2 : Int32)), .val (.int (5 : Int32)), .val (.int (2 : Int32)), .val (.int cc1)]) X368 hx hby djdk52m21_38 rfl (by decide) rfl rfl ?_
 refine w_goto (pc' := 3) X368 hx hby djdk52m21_41 (by decide) ?_
 refine w_iload (pc' := 5) X368 hx hby djdk52m21_3 rfl rfl ?_
 refine w_iload (pc' := 7) X368 hx hby djdk52m21_5 rfl rfl ?_
 refine w_icmpNo (pc' := 10) X368 hx hby djdk52m21_7 (XT.ii_ge_f (by decide)) rfl ?_
 refine w_aloadN (pc' := 11) X368 hx hby djdk52m21_10 rfl rfl rfl ?_
 refine w_iloadN (pc' := 12) X368 hx hby djdk52m21_11 rfl rfl ?_
 refine Rch.st (fun _ k => own_ldC X368 hx hZ e368 f370 (j := (2 : Int32)) ⟨by decide, by decide⟩ (by rfl) rfl rfl (hb hby djdk52m21_12) k) ?_
 show Rch p e below T368 (mkF m 13 #[.val (.ref ca), .val (.int 2), .val (.ref bd), .val (.int 2), .val (.int 5), .val (.int 2), .val (.int cc1)] [(.int cc2)]) _
 refine w_istore (pc' := 15) (l' := #[.val (.ref ca), .val (.int 2), .val (.ref bd), .val (.int 2), .val (.int 5), .val (.int 2), .val (.int cc2)]) X368 hx hby djdk52m21_13 rfl rfl ?_
 refine w_iload (pc' := 17) X368 hx hby djdk52m21_15 rfl rfl ?_
 refine w_sipush (pc' := 20) (v := 255) X368 hx hby djdk52m21_17 rfl rfl ?_
 refine w_icmpYes (pc' := 26) X368 hx hby djdk52m21_20 (XT.ii_le_t (hg2)) (by decide) ?_
 refine w_aloadN (pc' := 27) X368 hx hby djdk52m21_26 rfl rfl rfl ?_
 refine w_iloadN (pc' := 28) X368 hx hby djdk52m21_27 rfl rfl ?_
 refine w_iload (pc' := 30) X368 hx hby djdk52m21_28 rfl rfl ?_
 refine w_i2b (pc' := 31) X368 hx hby djdk52m21_30 rfl ?_
 obtain ⟨T374, h374, X374, e374, W374, V374, st374⟩ := own_stB X368 hx hZ e368 f373 (j := (2 : Int32)) ⟨by decide, by decide⟩ 2 (by decide) (by decide : 2 < 5) (g := (mkF m 31 #[.val (.ref ca), .val (.int 2), .val (.ref bd), .val (.int 2), .val (.int 5), .val (.int 2), .val (.int cc2)] [(.int (cc2).toInt8.toInt32), (.int 2), (.ref bd)])) rfl rfl (hb hby djdk52m21_31)
 have N375 := Fr.snoc X374 N369 gd
 have f376 := f370.other W374 ncd
 have Kp378 : Keep h0 h374 [bd] := Kp372.wr W374 (Or.inl (List.mem_of_getElem? (i := 0) rfl))
 have f379 : Arv Z h374 bd kd .byte (5 : Int32) [(.int ((cc0).toInt8.toInt32).toInt8.toInt32), (.int ((cc1).toInt8.toInt32).toInt8.toInt32), (.int ((cc2).toInt8.toInt32).toInt8.toInt32), (.int (0 : Int32)), (.int (0 : Int32))] (.int (0 : Int32)) := V374
 refine Rch.st (fun _ k => st374 _ k) ?_
 show Rch p e below T374 (mkF m 32 #[.val (.ref ca), .val (.int 2), .val (.ref bd), .val (.int 2), .val (.int 5), .val (.int 2), .val (.int cc2)] []) _
 refine w_iinc (pc' := 35) (w := (3 : Int32)) (l' := #[.val (.ref ca), .val (.int (3 : Int32)), .val (.ref bd), .val (.int (2 : Int32)), .val (.int (5 : Int32)), .val (.int (2 : Int32)), .val (.int cc2)]) X374 hx hby djdk52m21_32 rfl (by decide) rfl rfl ?_
 refine w_iinc (pc' := 38) (w := (3 : Int32)) (l' := #[.val (.ref ca), .val (.int (3 : Int32)), .val (.ref bd), .val (.int (3 : Int32)), .val (.int (5 : Int32)), .val (.int (2 : Int32)), .val (.int cc2)]) X374 hx hby djdk52m21_35 rfl (by decide) rfl rfl ?_
 refine w_iinc (pc' := 41) (w := (3 : Int32)) (l' := #[.val (.ref ca), .val (.int (3 : Int32)), .val (.ref bd), .val (.int (3 : Int32)), .val (.int (5 : Int32)), .val (.int (3 : Int32)), .val (.int cc2)]) X374 hx hby djdk52m21_38 rfl (by decide) rfl rfl ?_
 refine w_goto (pc' := 3) X374 hx hby djdk52m21_41 (by decide) ?_
 refine w_iload (pc' := 5) X374 hx hby djdk52m21_3 rfl rfl ?_
 refine w_iload (pc' := 7) X374 hx hby djdk52m21_5 rfl rfl ?_
 refine w_icmpNo (pc' := 10) X374 hx hby djdk52m21_7 (XT.ii_ge_f (by decide)) rfl ?_
 refine w_aloadN (pc' := 11) X374 hx hby djdk52m21_10 rfl rfl rfl ?_
 refine w_iloadN (pc' := 12) X374 hx hby djdk52m21_11 rfl rfl ?_
 refine Rch.st (fun _ k => own_ldC X374 hx hZ e374 f376 (j := (3 : Int32)) ⟨by decide, by decide⟩ (by rfl) rfl rfl (hb hby djdk52m21_12) k) ?_
 show Rch p e below T374 (mkF m 13 #[.val (.ref ca), .val (.int 3), .val (.ref bd), .val (.int 3), .val (.int 5), .val (.int 3), .val (.int cc2)] [(.int cc3)]) _
 refine w_istore (pc' := 15) (l' := #[.val (.ref ca), .val (.int 3), .val (.ref bd), .val (.int 3), .val (.int 5), .val (.int 3), .val (.int cc3)]) X374 hx hby djdk52m21_13 rfl rfl ?_
 refine w_iload (pc' := 17) X374 hx hby djdk52m21_15 rfl rfl ?_
 refine w_sipush (pc' := 20) (v := 255) X374 hx hby djdk52m21_17 rfl rfl ?_
 refine w_icmpYes (pc' := 26) X374 hx hby djdk52m21_20 (XT.ii_le_t (hg3)) (by decide) ?_
 refine w_aloadN (pc' := 27) X374 hx hby djdk52m21_26 rfl rfl rfl ?_
 refine w_iloadN (pc' := 28) X374 hx hby djdk52m21_27 rfl rfl ?_
 refine w_iload (pc' := 30) X374 hx hby djdk52m21_28 rfl rfl ?_
 refine w_i2b (pc' := 31) X374 hx hby djdk52m21_30 rfl ?_
 obtain ⟨T380, h380, X380, e380, W380, V380, st380⟩ := own_stB X374 hx hZ e374 f379 (j := (3 : Int32)) ⟨by decide, by decide⟩ 3 (by decide) (by decide : 3 < 5) (g := (mkF m 31 #[.val (.ref ca), .val (.int 3), .val (.ref bd), .val (.int 3), .val (.int 5), .val (.int 3), .val (.int cc3)] [(.int (cc3).toInt8.toInt32), (.int 3), (.ref bd)])) rfl rfl (hb hby djdk52m21_31)
 have N381 := Fr.snoc X380 N375 gd
 have f382 := f376.other W380 ncd
 have Kp384 : Keep h0 h380 [bd] := Kp378.wr W380 (Or.inl (List.mem_of_getElem? (i := 0) rfl))
 have f385 : Arv Z h380 bd kd .byte (5 : Int32) [(.int ((cc0).toInt8.toInt32).toInt8.toInt32), (.int ((cc1).toInt8.toInt32).toInt8.toInt32), (.int ((cc2).toInt8.toInt32).toInt8.toInt32), (.int ((cc3).toInt8.toInt32).toInt8.toInt32), (.int (0 : Int32))] (.int (0 : Int32)) := V380
 refine Rch.st (fun _ k => st380 _ k) ?_
 show Rch p e below T380 (mkF m 32 #[.val (.ref ca), .val (.int 3), .val (.ref bd), .val (.int 3), .val (.int 5), .val (.int 3), .val (.int cc3)] []) _
 refine w_iinc (pc' := 35) (w := (4 : Int32)) (l' := #[.val (.ref ca), .val (.int (4 : Int32)), .val (.ref bd), .val (.int (3 : Int32)), .val (.int (5 : Int32)), .val (.int (3 : Int32)), .val (.int cc3)]) X380 hx hby djdk52m21_32 rfl (by decide) rfl rfl ?_
 refine w_iinc (pc' := 38) (w := (4 : Int32)) (l' := #[.val (.ref ca), .val (.int (4 : Int32)), .val (.ref bd), .val (.int (4 : Int32)), .val (.int (5 : Int32)), .val (.int (3 : Int32)), .val (.int cc3)]) X380 hx hby djdk52m21_35 rfl (by decide) rfl rfl ?_
 refine w_iinc (pc' := 41) (w := (4 : Int32)) (l' := #[.val (.ref ca), .val (.int (4 : Int32)), .val (.ref bd), .val (.int (4 : Int32)), .val (.int (5 : Int32)), .val (.int (4 : Int32)), .val (.int cc3)]) X380 hx hby djdk52m21_38 rfl (by decide) rfl rfl ?_
 refine w_goto (pc' := 3) X380 hx hby djdk52m21_41 (by decide) ?_
 refine w_iload (pc' := 5) X380 hx hby djdk52m21_3 rfl rfl ?_
 refine w_iload (pc' := 7) X380 hx hby djdk52m21_5 rfl rfl ?_
 refine w_icmpNo (pc' := 10) X380 hx hby djdk52m21_7 (XT.ii_ge_f (by decide)) rfl ?_
 refine w_aloadN (pc' := 11) X380 hx hby djdk52m21_10 rfl rfl rfl ?_
 refine w_iloadN (pc' := 12) X380 hx hby djdk52m21_11 rfl rfl ?_
 refine Rch.st (fun _ k => own_ldC X380 hx hZ e380 f382 (j := (4 : Int32)) ⟨by decide, by decide⟩ (by rfl) rfl rfl (hb hby djdk52m21_12) k) ?_
 show Rch p e below T380 (mkF m 13 #[.val (.ref ca), .val (.int 4), .val (.ref bd), .val (.int 4), .val (.int 5), .val (.int 4), .val (.int cc3)] [(.int cc4)]) _
 refine w_istore (pc' := 15) (l' := #[.val (.ref ca), .val (.int 4), .val (.ref bd), .val (.int 4), .val (.int 5), .val (.int 4), .val (.int cc4)]) X380 hx hby djdk52m21_13 rfl rfl ?_
 refine w_iload (pc' := 17) X380 hx hby djdk52m21_15 rfl rfl ?_
 refine w_sipush (pc' := 20) (v := 255) X380 hx hby djdk52m21_17 rfl rfl ?_
 refine w_icmpYes (pc' := 26) X380 hx hby djdk52m21_20 (XT.ii_le_t (hg4)) (by decide) ?_
 refine w_aloadN (pc' := 27) X380 hx hby djdk52m21_26 rfl rfl rfl ?_
 refine w_iloadN (pc' := 28) X380 hx hby djdk52m21_27 rfl rfl ?_
 refine w_iload (pc' := 30) X380 hx hby djdk52m21_28 rfl rfl ?_
 refine w_i2b (pc' := 31) X380 hx hby djdk52m21_30 rfl ?_
 obtain ⟨T386, h386, X386, e386, W386, V386, st386⟩ := own_stB X380 hx hZ e380 f385 (j := (4 : Int32)) ⟨by decide, by decide⟩ 4 (by decide) (by decide : 4 < 5) (g := (mkF m 31 #[.val (.ref ca), .val (.int 4), .val (.ref bd), .val (.int 4), .val (.int 5), .val (.int 4), .val (.int cc4)] [(.int (cc4).toInt8.toInt32), (.int 4), (.ref bd)])) rfl rfl (hb hby djdk52m21_31)
 have N387 := Fr.snoc X386 N381 gd
 have Kp390 : Keep h0 h386 [bd] := Kp384.wr W386 (Or.inl (List.mem_of_getElem? (i := 0) rfl))
 have f391 : Arv Z h386 bd kd .byte (5 : Int32) [(.int ((cc0).toInt8.toInt32).toInt8.toInt32), (.int ((cc1).toInt8.toInt32).toInt8.toInt32), (.int ((cc2).toInt8.toInt32).toInt8.toInt32), (.int ((cc3).toInt8.toInt32).toInt8.toInt32), (.int ((cc4).toInt8.toInt32).toInt8.toInt32)] (.int (0 : Int32)) := V386
 refine Rch.st (fun _ k => st386 _ k) ?_
 show Rch p e below T386 (mkF m 32 #[.val (.ref ca), .val (.int 4), .val (.ref bd), .val (.int 4), .val (.int 5), .val (.int 4), .val (.int cc4)] []) _
 refine w_iinc (pc' := 35) (w := (5 : Int32)) (l' := #[.val (.ref ca), .val (.int (5 : Int32)), .val (.ref bd), .val (.int (4 : Int32)), .val (.int (5 : Int32)), .val (.int (4 : Int32)), .val (.int cc4)]) X386 hx hby djdk52m21_32 rfl (by decide) rfl rfl ?_
 refine w_iinc (pc' := 38) (w := (5 : Int32)) (l' := #[.val (.ref ca), .val (.int (5 : Int32)), .val (.ref bd), .val (.int (5 : Int32)), .val (.int (5 : Int32)), .val (.int (4 : Int32)), .val (.int cc4)]) X386 hx hby djdk52m21_35 rfl (by decide) rfl rfl ?_
 refine w_iinc (pc' := 41) (w := (5 : Int32)) (l' := #[.val (.ref ca), .val (.int (5 : Int32)), .val (.ref bd), .val (.int (5 : Int32)), .val (.int (5 : Int32)), .val (.int (5 : Int32)), .val (.int cc4)]) X386 hx hby djdk52m21_38 rfl (by decide) rfl rfl ?_
 refine w_goto (pc' := 3) X386 hx hby djdk52m21_41 (by decide) ?_
 refine w_iload (pc' := 5) X386 hx hby djdk52m21_3 rfl rfl ?_
 refine w_iload (pc' := 7) X386 hx hby djdk52m21_5 rfl rfl ?_
 refine w_icmpYes (pc' := 44) X386 hx hby djdk52m21_7 (XT.ii_ge_t (by decide)) (by decide) ?_
 refine w_iload (pc' := 46) X386 hx hby djdk52m21_44 rfl rfl ?_
 exact Rch.retV X386 hx Bd.returns rfl (Or.inl ⟨rfl, by simp, _, rfl⟩) (hb hby djdk52m21_46) (by rw [e386]; exact ⟨rfl, N387, Kp390, f391⟩) (by decide) (by decide)

theorem ef_rm_cmp3_5 (m : MethodId) (ca : Addr) (kc : ClassId) (cc0 : Int32) (cc1 : Int32) (cc2 : Int32) (cc3 : Int32) (cc4 : Int32)  : entryFrame m #[(.ref ca), (.int (0 : Int32)), (.int (5 : Int32))] 6 = mkF m 0 #[.val (.ref ca), .val (.int (0 : Int32)), .val (.int (5 : Int32)), .unset, .unset, .unset] [] := by  first | (simp [entryFrame, mkF, argsToLocals, Value.category, maxLocals]; done) | rfl
def Q_rm_cmp3_5 (Z : State) (ca : Addr) (kc : ClassId) (cc0 : Int32) (cc1 : Int32) (cc2 : Int32) (cc3 : Int32) (cc4 : Int32) (h0 : Heap) (n0 : Nat) (v : Option Value) (h : Heap) (L : List Loc) : Prop := ∃ (t : Addr) (kt : ClassId), (v = some (.ref t)) ∧ (Fr n0 L) ∧ (Keep h0 h []) ∧ (h0.size ≤ t) ∧ (Arv Z h t kt .byte (5 : Int32) [(.int (own_by cc0)), (.int (own_by cc1)), (.int (own_by cc2)), (.int (own_by cc3)), (.int (own_by cc4))] (.int (0 : Int32)))
set_option maxRecDepth 65536 in
set_option maxHeartbeats 40000000 in
theorem rm_cmp3_5 (l : Launch) (Z : State) (a0 : Array Value) (hw : ∀ d ∈ tables_1, d.before a0 Z = true) (ws : List Jvm.Cond) (ca : Addr) (kc : ClassId) (cc0 : Int32) (cc1 : Int32) (cc2 : Int32) (cc3 : Int32) (cc4 : Int32) (h0 : Heap) (n0 : Nat) (Z0 : n0 ≤ h0.size) (f0 : Arv Z h0 ca kc .char (5 : Int32) [(.int cc0), (.int cc1), (.int cc2), (.int cc3), (.int cc4)] (.int (0 : Int32))) (hg0 : ¬ (255 : Int32) < cc0) (hg1 : ¬ (255 : Int32) < cc1) (hg2 : ¬ (255 : Int32) < cc2) (hg3 : ¬ (255 : Int32) < cc3) (hg4 : ¬ (255 : Int32) < cc4) :
    MetFree l (⟨"java/lang/StringUTF16", "compress", "([CII)[B"⟩ : MethodName) (head1 (Jvm.Cond.code (⟨"java/lang/StringUTF16", "compress", "([CII)[B"⟩ : MethodName) jdk_52_method_16_code 6 (some (.array .byte)) :: ws) ({ frames := 1, cells := 1, slots := 5, locals := 18 } : Room)) (fun a U => a = #[(.ref ca), (.int (0 : Int32)), (.int (5 : Int32))] ∧ Z.Warmed39 U.vm ∧ U.heap = h0) (fun _ _ _ _ _ => True) (fun _ U o U' => ∃ v L, o = .returned v ∧ Q_rm_cmp3_5 Z ca kc cc0 cc1 cc2 cc3 cc4 h0 n0 v U'.heap L ∧ FrameEnd U o U' L ({ frames := 1, cells := 1, slots := 5, locals := 18 } : Room).cells ({ frames := 1, cells := 1, slots := 5, locals := 18 } : Room).slots) := by
 refine MetFree.of_bodySF (plainFor_of_name pn_java_lang_StringUTF16) hisR ?_
 intro p e s m args below meth c s₁ Bd hml0 hP hK
 obtain ⟨rfl, hZ, hh⟩ := hP
 have hx := Bd.exec
 have hby := Bd.bytes
 have hml : c.maxLocals = 6 := hml0
 have hown : s.vm.findClass "java/lang/StringUTF16" = some m.cls := findClass_of_methodNamed Bd.named
 have hnm := (name_of_methodNamed Bd.named Bd.method).1
 have X0 : Stand p l e ({ frames := 1, cells := 1, slots := 5, locals := 18 } : Room) s m #[(.ref ca), (.int (0 : Int32)), (.int (5 : Int32))] below meth c s₁ [] 0 0 := Stand.of_body Bd
 have e0 : s₁.heap = h0 := by rw [← hh, Bd.state]; rfl
 have N0 := Fr.nil n0
 have K00 : Keep h0 h0 [] := Keep.refl _ _
 show Rch p e below s₁ (entryFrame m #[(.ref ca), (.int (0 : Int32)), (.int (5 : Int32))] 6) (FinP s (Q_rm_cmp3_5 Z ca kc cc0 cc1 cc2 cc3 cc4 h0 n0) 1 5)
 refine Rch.cast (ef_rm_cmp3_5 m ca kc cc0 cc1 cc2 cc3 cc4) ?_
 show Rch p e below s₁ (mkF m 0 #[.val (.ref ca), .val (.int 0), .val (.int 5), .unset, .unset, .unset] []) _
 refine w_iloadN (pc' := 1) X0 hx hby djdk52m16_0 rfl rfl ?_
 obtain ⟨T392, h392, kc392, X392, e392, E392, A392, st392⟩ := newP X0 hx hZ (wi hw 11 rfl) e0 (g := (mkF m 1 #[.val (.ref ca), .val (.int 0), .val (.int 5), .unset, .unset, .unset] [(.int 5)])) rfl (hb hby djdk52m16_1) rfl (by decide : ¬ ((5 : Int32) < (0 : Int32))) (cap := 5) (by decide : (5 : Int32).toNatClampNeg ≤ 5) (by decide) (by decide) (by decide)
 obtain ⟨a392, g392⟩ : ∃ z, z = h0.size := ⟨_, rfl⟩
 rw [← g392] at A392 st392
 have ne393 : ca ≠ a392 := by rw [g392]; exact Nat.ne_of_lt f0.lt
 have ge394 : n0 ≤ a392 := Nat.le_trans Z0 (Nat.le_of_eq g392.symm)
 have f396 := f0.ext E392
 have Z397 := Nat.le_trans Z0 E392.1
 have Kp398 : Keep h0 h392 [] := K00.ext E392
 have f399 : Arv Z h392 a392 kc392 .byte (5 : Int32) [(.int (0 : Int32)), (.int (0 : Int32)), (.int (0 : Int32)), (.int (0 : Int32)), (.int (0 : Int32))] (.int (0 : Int32)) := (Arv.new A392 (by decide : ¬ ((5 : Int32) < (0 : Int32)))).pad (pad_rep [] (.int (0 : Int32)) 5)
 refine Rch.st (fun _ k => st392 _ k) ?_
 show Rch p e below T392 (mkF m 3 #[.val (.ref ca), .val (.int 0), .val (.int 5), .unset, .unset, .unset] [(.ref a392)]) _
 refine w_astoreN (pc' := 4) (l' := #[.val (.ref ca), .val (.int 0), .val (.int 5), .val (.ref a392), .unset, .unset]) X392 hx hby djdk52m16_3 rfl rfl rfl ?_
 refine w_aloadN (pc' := 5) X392 hx hby djdk52m16_4 rfl rfl rfl ?_
 refine w_iloadN (pc' := 6) X392 hx hby djdk52m16_5 rfl rfl ?_
 refine w_aloadN (pc' := 7) X392 hx hby djdk52m16_6 rfl rfl rfl ?_
 refine w_iconst (pc' := 8) (v := 0) X392 hx hby djdk52m16_7 rfl rfl ?_
 refine w_iloadN (pc' := 9) X392 hx hby djdk52m16_8 rfl rfl ?_
 obtain ⟨_, _, ⟨T400, L400, k400, n400⟩, -, X400, ⟨Lc400, hQ400, l400, y400, z400⟩, st400⟩ := Jvm.LawKit.callS X392 hx (y := (⟨"java/lang/StringUTF16", "compress", "([CI[BII)I"⟩ : MethodName)) hown (mvT hZ (wi hw 77 rfl)) (mvT hZ (wi hw 78 rfl)) (mvT hZ (wi hw 75 rfl)) (mvT hZ (wi hw 79 rfl)) (by decide) (backOf (W := 0) (rm_cmp5_5 l Z a0 hw [] ca kc a392 kc392 cc0 cc1 cc2 cc3 cc4 h392 n0 Z397 f396 f399 (ge394) (ne393) (hg0) (hg1) (hg2) (hg3) (hg4)) hZ (wi hw 79 rfl) (wi hw 75 rfl) (by decide) (by decide)) (g := (mkF m 9 #[.val (.ref ca), .val (.int 0), .val (.int 5), .val (.ref a392), .unset, .unset] [(.int 5), (.int 0), (.ref a392), (.int 0), (.ref ca)])) rfl (by rw [hml]; rfl) (argsL := [(.ref ca), (.int 0), (.ref a392), (.int 0), (.int 5)]) (rest := []) (lenOf pd___CI_BII_I rfl) rfl (by show 2 * 0 + _ ≤ _; exact Nat.le_of_eq rfl) (hb hby djdk52m16_9) (fun _ _ => ⟨rfl, e392, (by decide : 1 + 0 ≤ _), (by decide : 5 + 0 ≤ _)⟩)
 dsimp only [Pt.U, Pt.locs, Pt.cells, Pt.slots] at X400 l400 y400 z400 st400 hQ400
 subst l400 y400 z400
 obtain ⟨rfl, NQ400, K400, fq400_0⟩ := hQ400
 have N401 := Fr.app N0 NQ400
 have Kp403 : Keep h0 T400.heap [] := Kp398.trans K400 (allS (Or.inr (Nat.le_trans K00.1 (Nat.le_of_eq g392.symm))) all0)
 refine Rch.st (fun _ k => st400 _ k) ?_
 show Rch p e below T400 (mkF m 12 #[.val (.ref ca), .val (.int 0), .val (.int 5), .val (.ref a392), .unset, .unset] [(.int 5)]) _
 refine w_istore (pc' := 14) (l' := #[.val (.ref ca), .val (.int 0), .val (.int 5), .val (.ref a392), .val (.int 5), .unset]) X400 hx hby djdk52m16_12 rfl rfl ?_
 refine w_iload (pc' := 16) X400 hx hby djdk52m16_14 rfl rfl ?_
 refine w_iloadN (pc' := 17) X400 hx hby djdk52m16_16 rfl rfl ?_
 refine w_icmpYes (pc' := 57) X400 hx hby djdk52m16_17 (XT.ii_eq_t (rfl)) (by decide) ?_
 refine w_aloadN (pc' := 58) X400 hx hby djdk52m16_57 rfl rfl rfl ?_
 exact Rch.retV X400 hx Bd.returns rfl (Or.inr (Or.inr (Or.inr (Or.inr ⟨rfl, rfl, rfl⟩)))) (hb hby djdk52m16_58) (by rw [(rfl : T400.heap = T400.heap)]; exact ⟨a392, kc392, rfl, N401, Kp403, (Nat.le_trans K00.1 (Nat.le_of_eq g392.symm)), fq400_0⟩) (by decide) (by decide)

theorem ef_rm_init4_5 (m : MethodId) (G1 : Int32) (a5 : Addr) (ca : Addr) (kc : ClassId) (cc0 : Int32) (cc1 : Int32) (cc2 : Int32) (cc3 : Int32) (cc4 : Int32)  : entryFrame m #[(.ref a5), (.ref ca), (.int (0 : Int32)), (.int (5 : Int32)), .null] 6 = mkF m 0 #[.val (.ref a5), .val (.ref ca), .val (.int (0 : Int32)), .val (.int (5 : Int32)), .val .null, .unset] [] := by  first | (simp [entryFrame, mkF, argsToLocals, Value.category, maxLocals]; done) | rfl
def Q_rm_init4_5 (Z : State) (G1 : Int32) (a5 : Addr) (ca : Addr) (kc : ClassId) (cc0 : Int32) (cc1 : Int32) (cc2 : Int32) (cc3 : Int32) (cc4 : Int32) (h0 : Heap) (n0 : Nat) (v : Option Value) (h : Heap) (L : List Loc) : Prop := ∃ (t : Addr) (kt : ClassId), (v = none) ∧ (Fr n0 L) ∧ (Keep h0 h [a5]) ∧ (h0.size ≤ t) ∧ (Fld Z h a5 "java/lang/String" "coder" "B" (.int (0 : Int32))) ∧ (Fld Z h a5 "java/lang/String" "value" "[B" (.ref t)) ∧ (Arv Z h t kt .byte (5 : Int32) [(.int (own_by cc0)), (.int (own_by cc1)), (.int (own_by cc2)), (.int (own_by cc3)), (.int (own_by cc4))] (.int (0 : Int32)))
set_option maxRecDepth 65536 in
set_option maxHeartbeats 40000000 in
theorem rm_init4_5 (l : Launch) (Z : State) (a0 : Array Value) (hw : ∀ d ∈ tables_1, d.before a0 Z = true) (ws : List Jvm.Cond) (G1 : Int32) (a5 : Addr) (ca : Addr) (kc : ClassId) (cc0 : Int32) (cc1 : Int32) (cc2 : Int32) (cc3 : Int32) (cc4 : Int32) (h0 : Heap) (n0 : Nat) (Z0 : n0 ≤ h0.size) (O2 : Sta Z Z.heap "java/lang/String" "COMPACT_STRINGS" "Z" (.int G1)) (P5 : ¬ G1 = 0) (f2 : Exa Z h0 a5 "java/lang/String") (f3 : Fld Z h0 a5 "java/lang/String" "coder" "B" (.int (0 : Int32))) (f4 : Fld Z h0 a5 "java/lang/String" "value" "[B" .null) (f5 : Arv Z h0 ca kc .char (5 : Int32) [(.int cc0), (.int cc1), (.int cc2), (.int cc3), (.int cc4)] (.int (0 : Int32))) (ga : n0 ≤ a5) (nca : a5 ≠ ca) (hg0 : ¬ (255 : Int32) < cc0) (hg1 : ¬ (255 : Int32) < cc1) (hg2 : ¬ (255 : Int32) < cc2) (hg3 : ¬ (255 : Int32) < cc3) (hg4 : ¬ (255 : Int32) < cc4) (Old0 : OldL Z n0 h0) :
    MetFree l (⟨"java/lang/String", "<init>", "([CIILjava/lang/Void;)V"⟩ : MethodName) (head1 (Jvm.Cond.code (⟨"java/lang/String", "<init>", "([CIILjava/lang/Void;)V"⟩ : MethodName) jdk_42_method_149_code 6 none :: ws) ({ frames := 2, cells := 1, slots := 5, locals := 35 } : Room)) (fun a U => a = #[(.ref a5), (.ref ca), (.int (0 : Int32)), (.int (5 : Int32)), .null] ∧ Z.Warmed39 U.vm ∧ U.heap = h0) (fun _ _ _ _ _ => True) (fun _ U o U' => ∃ v L, o = .returned v ∧ Q_rm_init4_5 Z G1 a5 ca kc cc0 cc1 cc2 cc3 cc4 h0 n0 v U'.heap L ∧ FrameEnd U o U' L ({ frames := 2, cells := 1, slots := 5, locals := 35 } : Room).cells ({ frames := 2, cells := 1, slots := 5, locals := 35 } : Room).slots) := by
 refine MetFree.of_bodySF (plainFor_of_name pn_java_lang_String) hisR ?_
 intro p e s m args below meth c s₁ Bd hml0 hP hK
 obtain ⟨rfl, hZ, hh⟩ := hP
 have hx := Bd.exec
 have hby := Bd.bytes
 have hml : c.maxLocals = 6 := hml0
 have hown : s.vm.findClass "java/lang/String" = some m.cls := findClass_of_methodNamed Bd.named
 have hnm := (name_of_methodNamed Bd.named Bd.method).1
 have X0 : Stand p l e ({ frames := 2, cells := 1, slots := 5, locals := 35 } : Room) s m #[(.ref a5), (.ref ca), (.int (0 : Int32)), (.int (5 : Int32)), .null] below meth c s₁ [] 0 0 := Stand.of_body Bd
 have e0 : s₁.heap = h0 := by rw [← hh, Bd.state]; rfl
 have N0 := Fr.nil n0
 have K00 : Keep h0 h0 [a5] := Keep.refl _ _
 show Rch p e below s₁ (entryFrame m #[(.ref a5), (.ref ca), (.int (0 : Int32)), (.int (5 : Int32)), .null] 6) (FinP s (Q_rm_init4_5 Z G1 a5 ca kc cc0 cc1 cc2 cc3 cc4 h0 n0) 1 5)
 refine Rch.cast (ef_rm_init4_5 m G1 a5 ca kc cc0 cc1 cc2 cc3 cc4) ?_
 show Rch p e below s₁ (mkF m 0 #[.val (.ref a5), .val (.ref ca), .val (.int 0), .val (.int 5), .val .null, .unset] []) _
 refine w_aloadN (pc' := 1) X0 hx hby djdk42m149_0 rfl rfl rfl ?_
 obtain ⟨T405, X405, e405, st405⟩ := initO X0 hx hZ hown (wi hw 70 rfl) (wi hw 71 rfl) (wi hw 72 rfl) e0 (g := (mkF m 1 #[.val (.ref a5), .val (.ref ca), .val (.int 0), .val (.int 5), .val .null, .unset] [(.ref a5)])) rfl (by rw [hml]; rfl) rfl (hb hby djdk42m149_1) (by decide) (W := 0) (by show 2 * 0 + _ ≤ _; exact Nat.le_of_eq rfl) (by decide)
 refine Rch.st (fun _ k => st405 _ k) ?_
 show Rch p e below T405 (mkF m 4 #[.val (.ref a5), .val (.ref ca), .val (.int 0), .val (.int 5), .val .null, .unset] []) _
 refine w_iloadN (pc' := 5) X405 hx hby djdk42m149_4 rfl rfl ?_
 refine w_ifYes (pc' := 27) X405 hx hby djdk42m149_5 (XT.i0_ne_t (by decide)) (by decide) ?_
 obtain ⟨T406, X406, e406, st406⟩ := getS X405 hx hZ hown (host := "") (wi hw 36 rfl) Via.refl e405 (O2.ext Old0.2) (g := (mkF m 27 #[.val (.ref a5), .val (.ref ca), .val (.int 0), .val (.int 5), .val .null, .unset] [])) rfl (hb hby djdk42m149_27)
 refine Rch.st (fun _ k => st406 _ k) ?_
 show Rch p e below T406 (mkF m 30 #[.val (.ref a5), .val (.ref ca), .val (.int 0), .val (.int 5), .val .null, .unset] [(.int G1)]) _
 refine w_ifNo (pc' := 33) X406 hx hby djdk42m149_30 (XT.i0_eq_f (P5)) rfl ?_
 refine w_aloadN (pc' := 34) X406 hx hby djdk42m149_33 rfl rfl rfl ?_
 refine w_iloadN (pc' := 35) X406 hx hby djdk42m149_34 rfl rfl ?_
 refine w_iloadN (pc' := 36) X406 hx hby djdk42m149_35 rfl rfl ?_
 obtain ⟨_, _, ⟨T407, L407, k407, n407⟩, -, X407, ⟨Lc407, hQ407, l407, y407, z407⟩, st407⟩ := Jvm.LawKit.callS X406 hx (y := (⟨"java/lang/StringUTF16", "compress", "([CII)[B"⟩ : MethodName)) hown (mvT hZ (wi hw 73 rfl)) (mvT hZ (wi hw 74 rfl)) (mvT hZ (wi hw 75 rfl)) (mvT hZ (wi hw 76 rfl)) (by decide) (backOf (W := 0) (rm_cmp3_5 l Z a0 hw [] ca kc cc0 cc1 cc2 cc3 cc4 h0 n0 Z0 f5 (hg0) (hg1) (hg2) (hg3) (hg4)) hZ (wi hw 76 rfl) (wi hw 75 rfl) (by decide) (by decide)) (g := (mkF m 36 #[.val (.ref a5), .val (.ref ca), .val (.int 0), .val (.int 5), .val .null, .unset] [(.int 5), (.int 0), (.ref ca)])) rfl (by rw [hml]; rfl) (argsL := [(.ref ca), (.int 0), (.int 5)]) (rest := []) (lenOf pd___CII__B rfl) rfl (by show 2 * 0 + _ ≤ _; exact Nat.le_of_eq rfl) (hb hby djdk42m149_36) (fun _ _ => ⟨rfl, e406, (by decide : 0 + 1 ≤ _), (by decide : 0 + 5 ≤ _)⟩)
 dsimp only [Pt.U, Pt.locs, Pt.cells, Pt.slots] at X407 l407 y407 z407 st407 hQ407
 subst l407 y407 z407
 obtain ⟨t_407, kt_407, rfl, NQ407, K407, pq407_0, fq407_0⟩ := hQ407
 have N408 := Fr.app N0 NQ407
 have ne409 := nlt f2.lt pq407_0
 have f412 := f2.keep K407
 have f413 := f3.keep K407 nin0
 have f414 := f4.keep K407 nin0
 have Kp417 : Keep h0 T407.heap [a5] := K00.trans K407 all0
 have Z418 := Nat.le_trans Z0 K407.1
 refine Rch.st (fun _ k => st407 _ k) ?_
 show Rch p e below T407 (mkF m 39 #[.val (.ref a5), .val (.ref ca), .val (.int 0), .val (.int 5), .val .null, .unset] [(.ref t_407)]) _
 refine w_astore (pc' := 41) (l' := #[.val (.ref a5), .val (.ref ca), .val (.int 0), .val (.int 5), .val .null, .val (.ref t_407)]) X407 hx hby djdk42m149_39 rfl rfl rfl ?_
 refine w_aloadN (pc' := 42) X407 hx hby djdk42m149_41 rfl rfl rfl ?_
 refine w_aload (pc' := 44) X407 hx hby djdk42m149_42 rfl rfl rfl ?_
 refine w_iloadN (pc' := 45) X407 hx hby djdk42m149_44 rfl rfl ?_
 obtain ⟨_, _, ⟨T419, L419, k419, n419⟩, -, X419, ⟨Lc419, hQ419, l419, y419, z419⟩, st419⟩ := Jvm.LawKit.callS X407 hx (y := (⟨"java/lang/StringUTF16", "coderFromArrayLen", "([BI)B"⟩ : MethodName)) hown (mvT hZ (wi hw 80 rfl)) (mvT hZ (wi hw 81 rfl)) (mvT hZ (wi hw 75 rfl)) (mvT hZ (wi hw 82 rfl)) (by decide) (backOf (W := 1) (rm_cfl l Z a0 hw [] t_407 kt_407 5 5 ([(.int (own_by cc0)), (.int (own_by cc1)), (.int (own_by cc2)), (.int (own_by cc3)), (.int (own_by cc4))]) (.int 0) T407.heap n0 Z418 fq407_0) hZ (wi hw 82 rfl) (wi hw 75 rfl) (by decide) (by decide)) (g := (mkF m 45 #[.val (.ref a5), .val (.ref ca), .val (.int 0), .val (.int 5), .val .null, .val (.ref t_407)] [(.int 5), (.ref t_407), (.ref a5)])) rfl (by rw [hml]; rfl) (argsL := [(.ref t_407), (.int 5)]) (rest := [(.ref a5)]) (lenOf pd___BI_B rfl) rfl (by show 2 * 0 + _ ≤ _; exact Nat.le_of_eq rfl) (hb hby djdk42m149_45) (fun _ _ => ⟨rfl, (rfl : T407.heap = T407.heap), (by decide : 1 + 0 ≤ _), (by decide : 5 + 0 ≤ _)⟩)
 dsimp only [Pt.U, Pt.locs, Pt.cells, Pt.slots] at X419 l419 y419 z419 st419 hQ419
 subst l419 y419 z419
 obtain ⟨rfl, NQ419, K419⟩ := hQ419
 have N420 := Fr.app N408 NQ419
 refine Rch.st (fun _ k => st419 _ k) ?_
 show Rch p e below T419 (mkF m 48 #[.val (.ref a5), .val (.ref ca), .val (.int 0), .val (.int 5), .val .null, .val (.ref t_407)] [(.int ((XT.ushr ((5 : Int32) - (5 : Int32)) (31 : Int32))).toInt8.toInt32), (.ref a5)]) _
 have r421 : ((XT.ushr ((5 : Int32) - (5 : Int32)) (31 : Int32))).toInt8.toInt32 = (0 : Int32) := by decide
 rw [r421]
 show Rch p e below T419 (mkF m 48 #[.val (.ref a5), .val (.ref ca), .val (.int 0), .val (.int 5), .val .null, .val (.ref t_407)] [(.int 0), (.ref a5)]) _
 obtain ⟨T422, h422, X422, e422, W422, st422⟩ := putF X419 hx hZ hown (host := "") (Or.inl (wi hw 37 rfl)) Via.refl K419 f413 f412 (Or.inr ⟨(wi hw 13 rfl), rfl, hnm⟩) (wi hw 10 rfl) (ty := .byte) (by decide) rfl rfl (g := (mkF m 48 #[.val (.ref a5), .val (.ref ca), .val (.int 0), .val (.int 5), .val .null, .val (.ref t_407)] [(.int 0), (.ref a5)])) rfl rfl (hb hby djdk42m149_48)
 have N423 := Fr.snoc X422 N420 ga
 have f424 := f412.wr W422
 have f425 := f413.same W422
 have f426 := f414.other W422 (Or.inr (slot_ne (t := (.array .byte)) (t' := .byte) (Or.inr (wi hw 12 rfl)) (Or.inr (wi hw 13 rfl)) (by decide) (by decide) (by decide)))
 have f428 := fq407_0.other W422 (Ne.symm ne409)
 have Kp431 : Keep h0 h422 [a5] := Kp417.wr W422 (Or.inl (List.mem_of_getElem? (i := 0) rfl))
 refine Rch.st (fun _ k => st422 _ k) ?_
 show Rch p e below T422 (mkF m 51 #[.val (.ref a5), .val (.ref ca), .val (.int 0), .val (.int 5), .val .null, .val (.ref t_407)] []) _
 refine w_aloadN (pc' := 52) X422 hx hby djdk42m149_51 rfl rfl rfl ?_
 refine w_aload (pc' := 54) X422 hx hby djdk42m149_52 rfl rfl rfl ?_
 obtain ⟨T432, h432, X432, e432, W432, st432⟩ := putF X422 hx hZ hown (host := "") (Or.inl (wi hw 30 rfl)) Via.refl e422 f426 f424 (Or.inr ⟨(wi hw 12 rfl), rfl, hnm⟩) (wi hw 10 rfl) (ty := (.array .byte)) (by decide) rfl rfl (g := (mkF m 54 #[.val (.ref a5), .val (.ref ca), .val (.int 0), .val (.int 5), .val .null, .val (.ref t_407)] [(.ref t_407), (.ref a5)])) rfl rfl (hb hby djdk42m149_54)
 have N433 := Fr.snoc X432 N423 ga
 have f435 := f425.other W432 (Or.inr (slot_ne (t := .byte) (t' := (.array .byte)) (Or.inr (wi hw 13 rfl)) (Or.inr (wi hw 12 rfl)) (by decide) (by decide) (by decide)))
 have f436 := f426.same W432
 have f438 := f428.other W432 (Ne.symm ne409)
 have Kp441 : Keep h0 h432 [a5] := Kp431.wr W432 (Or.inl (List.mem_of_getElem? (i := 0) rfl))
 refine Rch.st (fun _ k => st432 _ k) ?_
 show Rch p e below T432 (mkF m 57 #[.val (.ref a5), .val (.ref ca), .val (.int 0), .val (.int 5), .val .null, .val (.ref t_407)] []) _
 exact Rch.ret0 X432 hx Bd.returns (hb hby djdk42m149_57) (by rw [e432]; exact ⟨t_407, kt_407, rfl, N433, Kp441, (Nat.le_trans K00.1 pq407_0), f435, f436, f438⟩) (by decide) (by decide)

theorem ef_rm_init1_5 (m : MethodId) (G1 : Int32) (a5 : Addr) (ca : Addr) (kc : ClassId) (cc0 : Int32) (cc1 : Int32) (cc2 : Int32) (cc3 : Int32) (cc4 : Int32)  : entryFrame m #[(.ref a5), (.ref ca)] 2 = mkF m 0 #[.val (.ref a5), .val (.ref ca)] [] := by  first | (simp [entryFrame, mkF, argsToLocals, Value.category, maxLocals]; done) | rfl
def Q_rm_init1_5 (Z : State) (G1 : Int32) (a5 : Addr) (ca : Addr) (kc : ClassId) (cc0 : Int32) (cc1 : Int32) (cc2 : Int32) (cc3 : Int32) (cc4 : Int32) (h0 : Heap) (n0 : Nat) (v : Option Value) (h : Heap) (L : List Loc) : Prop := ∃ (t : Addr) (kt : ClassId), (v = none) ∧ (Fr n0 L) ∧ (Keep h0 h [a5]) ∧ (h0.size ≤ t) ∧ (Fld Z h a5 "java/lang/String" "coder" "B" (.int (0 : Int32))) ∧ (Fld Z h a5 "java/lang/String" "value" "[B" (.ref t)) ∧ (Arv Z h t kt .byte (5 : Int32) [(.int (own_by cc0)), (.int (own_by cc1)), (.int (own_by cc2)), (.int (own_by cc3)), (.int (own_by cc4))] (.int (0 : Int32)))
set_option maxRecDepth 65536 in
set_option maxHeartbeats 40000000 in
theorem rm_init1_5 (l : Launch) (Z : State) (a0 : Array Value) (hw : ∀ d ∈ tables_1, d.before a0 Z = true) (ws : List Jvm.Cond) (G1 : Int32) (a5 : Addr) (ca : Addr) (kc : ClassId) (cc0 : Int32) (cc1 : Int32) (cc2 : Int32) (cc3 : Int32) (cc4 : Int32) (h0 : Heap) (n0 : Nat) (Z0 : n0 ≤ h0.size) (O2 : Sta Z Z.heap "java/lang/String" "COMPACT_STRINGS" "Z" (.int G1)) (P5 : ¬ G1 = 0) (f2 : Exa Z h0 a5 "java/lang/String") (f3 : Fld Z h0 a5 "java/lang/String" "coder" "B" (.int (0 : Int32))) (f4 : Fld Z h0 a5 "java/lang/String" "value" "[B" .null) (f5 : Arv Z h0 ca kc .char (5 : Int32) [(.int cc0), (.int cc1), (.int cc2), (.int cc3), (.int cc4)] (.int (0 : Int32))) (ga : n0 ≤ a5) (nca : a5 ≠ ca) (hg0 : ¬ (255 : Int32) < cc0) (hg1 : ¬ (255 : Int32) < cc1) (hg2 : ¬ (255 : Int32) < cc2) (hg3 : ¬ (255 : Int32) < cc3) (hg4 : ¬ (255 : Int32) < cc4) (Old0 : OldL Z n0 h0) :
    MetFree l (⟨"java/lang/String", "<init>", "([C)V"⟩ : MethodName) (head1 (Jvm.Cond.code (⟨"java/lang/String", "<init>", "([C)V"⟩ : MethodName) jdk_42_method_3_code 2 none :: ws) ({ frames := 3, cells := 1, slots := 5, locals := 52 } : Room)) (fun a U => a = #[(.ref a5), (.ref ca)] ∧ Z.Warmed39 U.vm ∧ U.heap = h0) (fun _ _ _ _ _ => True) (fun _ U o U' => ∃ v L, o = .returned v ∧ Q_rm_init1_5 Z G1 a5 ca kc cc0 cc1 cc2 cc3 cc4 h0 n0 v U'.heap L ∧ FrameEnd U o U' L ({ frames := 3, cells := 1, slots := 5, locals := 52 } : Room).cells ({ frames := 3, cells := 1, slots := 5, locals := 52 } : Room).slots) := by
 refine MetFree.of_bodySF (plainFor_of_name pn_java_lang_String) hisR ?_
 intro p e s m args below meth c s₁ Bd hml0 hP hK
 obtain ⟨rfl, hZ, hh⟩ := hP
 have hx := Bd.exec
 have hby := Bd.bytes
 have hml : c.maxLocals = 2 := hml0
 have hown : s.vm.findClass "java/lang/String" = some m.cls := findClass_of_methodNamed Bd.named
 have hnm := (name_of_methodNamed Bd.named Bd.method).1
 have X0 : Stand p l e ({ frames := 3, cells := 1, slots := 5, locals := 52 } : Room) s m #[(.ref a5), (.ref ca)] below meth c s₁ [] 0 0 := Stand.of_body Bd
 have e0 : s₁.heap = h0 := by rw [← hh, Bd.state]; rfl
 have N0 := Fr.nil n0
 have K00 : Keep h0 h0 [a5] := Keep.refl _ _
 show Rch p e below s₁ (entryFrame m #[(.ref a5), (.ref ca)] 2) (FinP s (Q_rm_init1_5 Z G1 a5 ca kc cc0 cc1 cc2 cc3 cc4 h0 n0) 1 5)
 refine Rch.cast (ef_rm_init1_5 m G1 a5 ca kc cc0 cc1 cc2 cc3 cc4) ?_
 show Rch p e below s₁ (mkF m 0 #[.val (.ref a5), .val (.ref ca)] []) _
 refine w_aloadN (pc' := 1) X0 hx hby djdk42m3_0 rfl rfl rfl ?_
 refine w_aloadN (pc' := 2) X0 hx hby djdk42m3_1 rfl rfl rfl ?_
 refine w_iconst (pc' := 3) (v := 0) X0 hx hby djdk42m3_2 rfl rfl ?_
 refine w_aloadN (pc' := 4) X0 hx hby djdk42m3_3 rfl rfl rfl ?_
 refine Rch.st (fun _ k => own_alen X0 hx hZ e0 f5 rfl rfl (hb hby djdk42m3_4) k) ?_
 show Rch p e below s₁ (mkF m 5 #[.val (.ref a5), .val (.ref ca)] [(.int 5), (.int 0), (.ref ca), (.ref a5)]) _
 refine w_aconstNull (pc' := 6) X0 hx hby djdk42m3_5 rfl ?_
 obtain ⟨_, _, ⟨T442, L442, k442, n442⟩, -, X442, ⟨Lc442, hQ442, l442, y442, z442⟩, st442⟩ := X0.specialBack hx (y := (⟨"java/lang/String", "<init>", "([CIILjava/lang/Void;)V"⟩ : MethodName)) rfl hown (mvT hZ (wi hw 66 rfl)) (mvT hZ (wi hw 67 rfl)) (mvT hZ (wi hw 69 rfl)) (by decide) (backOf (W := 0) (rm_init4_5 l Z a0 hw [] G1 a5 ca kc cc0 cc1 cc2 cc3 cc4 h0 n0 Z0 (O2) (P5) f2 f3 f4 f5 (ga) (nca) (hg0) (hg1) (hg2) (hg3) (hg4) Old0) hZ (wi hw 69 rfl) (wi hw 9 rfl) (by decide) (by decide)) (g := (mkF m 6 #[.val (.ref a5), .val (.ref ca)] [.null, (.int 5), (.int 0), (.ref ca), (.ref a5)])) rfl (by rw [hml]; rfl) (Steps.refl _) (a := a5) (argsL := [(.ref ca), (.int 0), (.int 5), .null]) (rest := []) (lenOf pd___CIILjava_lang_Void__V rfl) rfl (by show 2 * 0 + _ ≤ _; exact Nat.le_of_eq rfl) (hb hby djdk42m3_6) (fun _ _ => ⟨rfl, e0, (by decide : 0 + 1 ≤ _), (by decide : 0 + 5 ≤ _)⟩)
 dsimp only [Pt.U, Pt.locs, Pt.cells, Pt.slots] at X442 l442 y442 z442 st442 hQ442
 subst l442 y442 z442
 obtain ⟨t_442, kt_442, rfl, NQ442, K442, pq442_0, fq442_0, fq442_1, fq442_2⟩ := hQ442
 have N443 := Fr.app N0 NQ442
 have Kp450 : Keep h0 T442.heap [a5] := K00.trans K442 (allS (Or.inl (List.mem_of_getElem? (i := 0) rfl)) all0)
 refine Rch.st (fun _ k => st442.trans k) ?_
 show Rch p e below T442 (mkF m 9 #[.val (.ref a5), .val (.ref ca)] []) _
 exact Rch.ret0 X442 hx Bd.returns (hb hby djdk42m3_9) (by rw [(rfl : T442.heap = T442.heap)]; exact ⟨t_442, kt_442, rfl, N443, Kp450, (Nat.le_trans K00.1 pq442_0), fq442_0, fq442_1, fq442_2⟩) (by decide) (by decide)

theorem dm2_0 : decode method_2_code 0 = .ok (.iload_n 0, 1) := by decide +kernel
theorem dm2_1 : decode method_2_code 1 = .ok (.sipush 256, 3) := by decide +kernel
theorem dm2_4 : decode method_2_code 4 = .ok (.iand, 1) := by decide +kernel
theorem dm2_5 : decode method_2_code 5 = .ok (.ifCond .eq 8, 3) := by decide +kernel
theorem dm2_8 : decode method_2_code 8 = .ok (.bipush 47, 2) := by decide +kernel
theorem dm2_10 : decode method_2_code 10 = .ok (.goto 9, 3) := by decide +kernel
theorem dm2_13 : decode method_2_code 13 = .ok (.iload_n 0, 1) := by decide +kernel
theorem dm2_14 : decode method_2_code 14 = .ok (.sipush 255, 3) := by decide +kernel
theorem dm2_17 : decode method_2_code 17 = .ok (.iand, 1) := by decide +kernel
theorem dm2_18 : decode method_2_code 18 = .ok (.i2c, 1) := by decide +kernel
theorem dm2_19 : decode method_2_code 19 = .ok (.ireturn, 1) := by decide +kernel
theorem pn_com_example_fascicle_fascicle_EntriesDirectoryOfPinLaw : plainName "com/example/fascicle/fascicle/EntriesDirectoryOfPinLaw" = true := by first | (simp [plainName, overriddenIn]; done) | decide +kernel
theorem ef_rm_ch (m : MethodId) (xx : Int32)  : entryFrame m #[(.int xx)] 1 = mkF m 0 #[.val (.int xx)] [] := by  first | (simp [entryFrame, mkF, argsToLocals, Value.category, maxLocals]; done) | rfl
def Q_rm_ch (Z : State) (xx : Int32) (h0 : Heap) (n0 : Nat) (v : Option Value) (h : Heap) (L : List Loc) : Prop := (v = some (.int (own_ch xx))) ∧ (Fr n0 L) ∧ (h = h0)
set_option maxRecDepth 65536 in
set_option maxHeartbeats 40000000 in
theorem rm_ch (l : Launch) (Z : State) (a0 : Array Value) (hw : ∀ d ∈ tables_1, d.before a0 Z = true) (ws : List Jvm.Cond) (xx : Int32) (h0 : Heap) (n0 : Nat) (Z0 : n0 ≤ h0.size)  :
    MetFree l (⟨"com/example/fascicle/fascicle/EntriesDirectoryOfPinLaw", "ch", "(I)C"⟩ : MethodName) (head1 (Jvm.Cond.code (⟨"com/example/fascicle/fascicle/EntriesDirectoryOfPinLaw", "ch", "(I)C"⟩ : MethodName) method_2_code 1 (some .char) :: ws) ({ frames := 0, cells := 0, slots := 0, locals := 0 } : Room)) (fun a U => a = #[(.int xx)] ∧ Z.Warmed39 U.vm ∧ U.heap = h0) (fun _ _ _ _ _ => True) (fun _ U o U' => ∃ v L, o = .returned v ∧ Q_rm_ch Z xx h0 n0 v U'.heap L ∧ FrameEnd U o U' L ({ frames := 0, cells := 0, slots := 0, locals := 0 } : Room).cells ({ frames := 0, cells := 0, slots := 0, locals := 0 } : Room).slots) := by
 refine MetFree.of_bodySF (plainFor_of_name pn_com_example_fascicle_fascicle_EntriesDirectoryOfPinLaw) hisR ?_
 intro p e s m args below meth c s₁ Bd hml0 hP hK
 obtain ⟨rfl, hZ, hh⟩ := hP
 have hx := Bd.exec
 have hby := Bd.bytes
 have hml : c.maxLocals = 1 := hml0
 have hown : s.vm.findClass "com/example/fascicle/fascicle/EntriesDirectoryOfPinLaw" = some m.cls := findClass_of_methodNamed Bd.named
 have hnm := (name_of_methodNamed Bd.named Bd.method).1
 have X0 : Stand p l e ({ frames := 0, cells := 0, slots := 0, locals := 0 } : Room) s m #[(.int xx)] below meth c s₁ [] 0 0 := Stand.of_body Bd
 have e0 : s₁.heap = h0 := by rw [← hh, Bd.state]; rfl
 have N0 := Fr.nil n0
 have K00 : Keep h0 h0 [] := Keep.refl _ _
 show Rch p e below s₁ (entryFrame m #[(.int xx)] 1) (FinP s (Q_rm_ch Z xx h0 n0) 0 0)
 refine Rch.cast (ef_rm_ch m xx) ?_
 show Rch p e below s₁ (mkF m 0 #[.val (.int xx)] []) _
 refine w_iloadN (pc' := 1) X0 hx hby dm2_0 rfl rfl ?_
 refine w_sipush (pc' := 4) (v := 256) X0 hx hby dm2_1 rfl rfl ?_
 refine w_iand (pc' := 5) X0 hx hby dm2_4 rfl ?_
 by_cases c452 : (xx &&& (256 : Int32)) = 0
 ·skip
  refine w_ifYes (pc' := 13) X0 hx hby dm2_5 (XT.i0_eq_t (c452)) (by decide) ?_
  refine w_iloadN (pc' := 14) X0 hx hby dm2_13 rfl rfl ?_
  refine w_sipush (pc' := 17) (v := 255) X0 hx hby dm2_14 rfl rfl ?_
  refine w_iand (pc' := 18) X0 hx hby dm2_17 rfl ?_
  refine w_i2c (pc' := 19) X0 hx hby dm2_18 rfl ?_
  exact Rch.retV X0 hx Bd.returns (XT.narrow_c _) (Or.inl ⟨rfl, by simp, _, rfl⟩) (hb hby dm2_19) (by rw [e0]; exact ⟨by simp [own_ch, c452], N0, rfl⟩) (by decide) (by decide)
 ·skip
  refine w_ifNo (pc' := 8) X0 hx hby dm2_5 (XT.i0_eq_f (c452)) rfl ?_
  refine w_bipush (pc' := 10) (v := 47) X0 hx hby dm2_8 rfl rfl ?_
  refine w_goto (pc' := 19) X0 hx hby dm2_10 (by decide) ?_
  exact Rch.retV X0 hx Bd.returns rfl (Or.inl ⟨rfl, by simp, _, rfl⟩) (hb hby dm2_19) (by rw [e0]; exact ⟨by simp [own_ch, c452], N0, rfl⟩) (by decide) (by decide)

theorem dm3_0 : decode method_3_code 0 = .ok (.iload_n 0, 1) := by decide +kernel
theorem dm3_1 : decode method_3_code 1 = .ok (.ifCond .ne 6, 3) := by decide +kernel
theorem dm3_4 : decode method_3_code 4 = .ok (.ldc 7, 2) := by decide +kernel
theorem dm3_6 : decode method_3_code 6 = .ok (.areturn, 1) := by decide +kernel
theorem dm3_7 : decode method_3_code 7 = .ok (.iload_n 0, 1) := by decide +kernel
theorem dm3_8 : decode method_3_code 8 = .ok (.iconst 1, 1) := by decide +kernel
theorem dm3_9 : decode method_3_code 9 = .ok (.if_icmp .ne 18, 3) := by decide +kernel
theorem dm3_12 : decode method_3_code 12 = .ok (.new 9, 3) := by decide +kernel
theorem dm3_15 : decode method_3_code 15 = .ok (.dup, 1) := by decide +kernel
theorem dm3_16 : decode method_3_code 16 = .ok (.iconst 1, 1) := by decide +kernel
theorem dm3_17 : decode method_3_code 17 = .ok (.newarray .char, 2) := by decide +kernel
theorem dm3_19 : decode method_3_code 19 = .ok (.dup, 1) := by decide +kernel
theorem dm3_20 : decode method_3_code 20 = .ok (.iconst 0, 1) := by decide +kernel
theorem dm3_21 : decode method_3_code 21 = .ok (.iload_n 1, 1) := by decide +kernel
theorem dm3_22 : decode method_3_code 22 = .ok (.castore, 1) := by decide +kernel
theorem dm3_23 : decode method_3_code 23 = .ok (.invokespecial 11, 3) := by decide +kernel
theorem dm3_26 : decode method_3_code 26 = .ok (.areturn, 1) := by decide +kernel
theorem dm3_27 : decode method_3_code 27 = .ok (.iload_n 0, 1) := by decide +kernel
theorem dm3_28 : decode method_3_code 28 = .ok (.iconst 2, 1) := by decide +kernel
theorem dm3_29 : decode method_3_code 29 = .ok (.if_icmp .ne 22, 3) := by decide +kernel
theorem dm3_32 : decode method_3_code 32 = .ok (.new 9, 3) := by decide +kernel
theorem dm3_35 : decode method_3_code 35 = .ok (.dup, 1) := by decide +kernel
theorem dm3_36 : decode method_3_code 36 = .ok (.iconst 2, 1) := by decide +kernel
theorem dm3_37 : decode method_3_code 37 = .ok (.newarray .char, 2) := by decide +kernel
theorem dm3_39 : decode method_3_code 39 = .ok (.dup, 1) := by decide +kernel
theorem dm3_40 : decode method_3_code 40 = .ok (.iconst 0, 1) := by decide +kernel
theorem dm3_41 : decode method_3_code 41 = .ok (.iload_n 1, 1) := by decide +kernel
theorem dm3_42 : decode method_3_code 42 = .ok (.castore, 1) := by decide +kernel
theorem dm3_43 : decode method_3_code 43 = .ok (.dup, 1) := by decide +kernel
theorem dm3_44 : decode method_3_code 44 = .ok (.iconst 1, 1) := by decide +kernel
theorem dm3_45 : decode method_3_code 45 = .ok (.iload_n 2, 1) := by decide +kernel
theorem dm3_46 : decode method_3_code 46 = .ok (.castore, 1) := by decide +kernel
theorem dm3_47 : decode method_3_code 47 = .ok (.invokespecial 11, 3) := by decide +kernel
theorem dm3_50 : decode method_3_code 50 = .ok (.areturn, 1) := by decide +kernel
theorem dm3_51 : decode method_3_code 51 = .ok (.iload_n 0, 1) := by decide +kernel
theorem dm3_52 : decode method_3_code 52 = .ok (.iconst 3, 1) := by decide +kernel
theorem dm3_53 : decode method_3_code 53 = .ok (.if_icmp .ne 26, 3) := by decide +kernel
theorem dm3_56 : decode method_3_code 56 = .ok (.new 9, 3) := by decide +kernel
theorem dm3_59 : decode method_3_code 59 = .ok (.dup, 1) := by decide +kernel
theorem dm3_60 : decode method_3_code 60 = .ok (.iconst 3, 1) := by decide +kernel
theorem dm3_61 : decode method_3_code 61 = .ok (.newarray .char, 2) := by decide +kernel
theorem dm3_63 : decode method_3_code 63 = .ok (.dup, 1) := by decide +kernel
theorem dm3_64 : decode method_3_code 64 = .ok (.iconst 0, 1) := by decide +kernel
theorem dm3_65 : decode method_3_code 65 = .ok (.iload_n 1, 1) := by decide +kernel
theorem dm3_66 : decode method_3_code 66 = .ok (.castore, 1) := by decide +kernel
theorem dm3_67 : decode method_3_code 67 = .ok (.dup, 1) := by decide +kernel
theorem dm3_68 : decode method_3_code 68 = .ok (.iconst 1, 1) := by decide +kernel
theorem dm3_69 : decode method_3_code 69 = .ok (.iload_n 2, 1) := by decide +kernel
theorem dm3_70 : decode method_3_code 70 = .ok (.castore, 1) := by decide +kernel
theorem dm3_71 : decode method_3_code 71 = .ok (.dup, 1) := by decide +kernel
theorem dm3_72 : decode method_3_code 72 = .ok (.iconst 2, 1) := by decide +kernel
theorem dm3_73 : decode method_3_code 73 = .ok (.iload_n 3, 1) := by decide +kernel
theorem dm3_74 : decode method_3_code 74 = .ok (.castore, 1) := by decide +kernel
theorem dm3_75 : decode method_3_code 75 = .ok (.invokespecial 11, 3) := by decide +kernel
theorem dm3_78 : decode method_3_code 78 = .ok (.areturn, 1) := by decide +kernel
theorem dm3_79 : decode method_3_code 79 = .ok (.iload_n 0, 1) := by decide +kernel
theorem dm3_80 : decode method_3_code 80 = .ok (.iconst 4, 1) := by decide +kernel
theorem dm3_81 : decode method_3_code 81 = .ok (.if_icmp .ne 31, 3) := by decide +kernel
theorem dm3_84 : decode method_3_code 84 = .ok (.new 9, 3) := by decide +kernel
theorem dm3_87 : decode method_3_code 87 = .ok (.dup, 1) := by decide +kernel
theorem dm3_88 : decode method_3_code 88 = .ok (.iconst 4, 1) := by decide +kernel
theorem dm3_89 : decode method_3_code 89 = .ok (.newarray .char, 2) := by decide +kernel
theorem dm3_91 : decode method_3_code 91 = .ok (.dup, 1) := by decide +kernel
theorem dm3_92 : decode method_3_code 92 = .ok (.iconst 0, 1) := by decide +kernel
theorem dm3_93 : decode method_3_code 93 = .ok (.iload_n 1, 1) := by decide +kernel
theorem dm3_94 : decode method_3_code 94 = .ok (.castore, 1) := by decide +kernel
theorem dm3_95 : decode method_3_code 95 = .ok (.dup, 1) := by decide +kernel
theorem dm3_96 : decode method_3_code 96 = .ok (.iconst 1, 1) := by decide +kernel
theorem dm3_97 : decode method_3_code 97 = .ok (.iload_n 2, 1) := by decide +kernel
theorem dm3_98 : decode method_3_code 98 = .ok (.castore, 1) := by decide +kernel
theorem dm3_99 : decode method_3_code 99 = .ok (.dup, 1) := by decide +kernel
theorem dm3_100 : decode method_3_code 100 = .ok (.iconst 2, 1) := by decide +kernel
theorem dm3_101 : decode method_3_code 101 = .ok (.iload_n 3, 1) := by decide +kernel
theorem dm3_102 : decode method_3_code 102 = .ok (.castore, 1) := by decide +kernel
theorem dm3_103 : decode method_3_code 103 = .ok (.dup, 1) := by decide +kernel
theorem dm3_104 : decode method_3_code 104 = .ok (.iconst 3, 1) := by decide +kernel
theorem dm3_105 : decode method_3_code 105 = .ok (.iload 4, 2) := by decide +kernel
theorem dm3_107 : decode method_3_code 107 = .ok (.castore, 1) := by decide +kernel
theorem dm3_108 : decode method_3_code 108 = .ok (.invokespecial 11, 3) := by decide +kernel
theorem dm3_111 : decode method_3_code 111 = .ok (.areturn, 1) := by decide +kernel
theorem dm3_112 : decode method_3_code 112 = .ok (.new 9, 3) := by decide +kernel
theorem dm3_115 : decode method_3_code 115 = .ok (.dup, 1) := by decide +kernel
theorem dm3_116 : decode method_3_code 116 = .ok (.iconst 5, 1) := by decide +kernel
theorem dm3_117 : decode method_3_code 117 = .ok (.newarray .char, 2) := by decide +kernel
theorem dm3_119 : decode method_3_code 119 = .ok (.dup, 1) := by decide +kernel
theorem dm3_120 : decode method_3_code 120 = .ok (.iconst 0, 1) := by decide +kernel
theorem dm3_121 : decode method_3_code 121 = .ok (.iload_n 1, 1) := by decide +kernel
theorem dm3_122 : decode method_3_code 122 = .ok (.castore, 1) := by decide +kernel
theorem dm3_123 : decode method_3_code 123 = .ok (.dup, 1) := by decide +kernel
theorem dm3_124 : decode method_3_code 124 = .ok (.iconst 1, 1) := by decide +kernel
theorem dm3_125 : decode method_3_code 125 = .ok (.iload_n 2, 1) := by decide +kernel
theorem dm3_126 : decode method_3_code 126 = .ok (.castore, 1) := by decide +kernel
theorem dm3_127 : decode method_3_code 127 = .ok (.dup, 1) := by decide +kernel
theorem dm3_128 : decode method_3_code 128 = .ok (.iconst 2, 1) := by decide +kernel
theorem dm3_129 : decode method_3_code 129 = .ok (.iload_n 3, 1) := by decide +kernel
theorem dm3_130 : decode method_3_code 130 = .ok (.castore, 1) := by decide +kernel
theorem dm3_131 : decode method_3_code 131 = .ok (.dup, 1) := by decide +kernel
theorem dm3_132 : decode method_3_code 132 = .ok (.iconst 3, 1) := by decide +kernel
theorem dm3_133 : decode method_3_code 133 = .ok (.iload 4, 2) := by decide +kernel
theorem dm3_135 : decode method_3_code 135 = .ok (.castore, 1) := by decide +kernel
theorem dm3_136 : decode method_3_code 136 = .ok (.dup, 1) := by decide +kernel
theorem dm3_137 : decode method_3_code 137 = .ok (.iconst 4, 1) := by decide +kernel
theorem dm3_138 : decode method_3_code 138 = .ok (.iload 5, 2) := by decide +kernel
theorem dm3_140 : decode method_3_code 140 = .ok (.castore, 1) := by decide +kernel
theorem dm3_141 : decode method_3_code 141 = .ok (.invokespecial 11, 3) := by decide +kernel
theorem dm3_144 : decode method_3_code 144 = .ok (.areturn, 1) := by decide +kernel
theorem ef_rm_mk_1 (m : MethodId) (G1 : Int32) (xa : Int32) (xb : Int32) (xc : Int32) (xd : Int32) (xe : Int32)  : entryFrame m #[(.int (1 : Int32)), (.int xa), (.int xb), (.int xc), (.int xd), (.int xe)] 6 = mkF m 0 #[.val (.int (1 : Int32)), .val (.int xa), .val (.int xb), .val (.int xc), .val (.int xd), .val (.int xe)] [] := by  first | (simp [entryFrame, mkF, argsToLocals, Value.category, maxLocals]; done) | rfl
def Q_rm_mk_1 (Z : State) (G1 : Int32) (xa : Int32) (xb : Int32) (xc : Int32) (xd : Int32) (xe : Int32) (h0 : Heap) (n0 : Nat) (v : Option Value) (h : Heap) (L : List Loc) : Prop := ∃ (ra : Addr) (t : Addr) (kt : ClassId), (v = some (.ref ra)) ∧ (Fr n0 L) ∧ (Keep h0 h []) ∧ (h0.size ≤ ra) ∧ (h0.size ≤ t) ∧ (Exa Z h ra "java/lang/String") ∧ (Fld Z h ra "java/lang/String" "coder" "B" (.int (0 : Int32))) ∧ (Fld Z h ra "java/lang/String" "value" "[B" (.ref t)) ∧ (Arv Z h t kt .byte (1 : Int32) [(.int (own_by xa))] (.int (0 : Int32)))
theorem pd___C_V : parseMethodDescriptor "([C)V" = some ⟨[(.array .char)], none⟩ := by decide +kernel
set_option maxRecDepth 65536 in
set_option maxHeartbeats 40000000 in
theorem rm_mk_1 (l : Launch) (Z : State) (a0 : Array Value) (hw : ∀ d ∈ tables_1, d.before a0 Z = true) (ws : List Jvm.Cond) (G1 : Int32) (xa : Int32) (xb : Int32) (xc : Int32) (xd : Int32) (xe : Int32) (h0 : Heap) (n0 : Nat) (Z0 : n0 ≤ h0.size) (O2 : Sta Z Z.heap "java/lang/String" "COMPACT_STRINGS" "Z" (.int G1)) (P5 : ¬ G1 = 0) (ch_xa : Ch8 xa) (Old0 : OldL Z n0 h0) :
    MetFree l (⟨"com/example/fascicle/fascicle/EntriesDirectoryOfPinLaw", "mk", "(ICCCCC)Ljava/lang/String;"⟩ : MethodName) (head1 (Jvm.Cond.code (⟨"com/example/fascicle/fascicle/EntriesDirectoryOfPinLaw", "mk", "(ICCCCC)Ljava/lang/String;"⟩ : MethodName) method_3_code 6 (some (.object "java/lang/String")) :: ws) ({ frames := 4, cells := 3, slots := 6, locals := 66 } : Room)) (fun a U => a = #[(.int (1 : Int32)), (.int xa), (.int xb), (.int xc), (.int xd), (.int xe)] ∧ Z.Warmed39 U.vm ∧ U.heap = h0) (fun _ _ _ _ _ => True) (fun _ U o U' => ∃ v L, o = .returned v ∧ Q_rm_mk_1 Z G1 xa xb xc xd xe h0 n0 v U'.heap L ∧ FrameEnd U o U' L ({ frames := 4, cells := 3, slots := 6, locals := 66 } : Room).cells ({ frames := 4, cells := 3, slots := 6, locals := 66 } : Room).slots) := by
 refine MetFree.of_bodySF (plainFor_of_name pn_com_example_fascicle_fascicle_EntriesDirectoryOfPinLaw) hisR ?_
 intro p e s m args below meth c s₁ Bd hml0 hP hK
 obtain ⟨rfl, hZ, hh⟩ := hP
 have hx := Bd.exec
 have hby := Bd.bytes
 have hml : c.maxLocals = 6 := hml0
 have hown : s.vm.findClass "com/example/fascicle/fascicle/EntriesDirectoryOfPinLaw" = some m.cls := findClass_of_methodNamed Bd.named
 have hnm := (name_of_methodNamed Bd.named Bd.method).1
 have X0 : Stand p l e ({ frames := 4, cells := 3, slots := 6, locals := 66 } : Room) s m #[(.int (1 : Int32)), (.int xa), (.int xb), (.int xc), (.int xd), (.int xe)] below meth c s₁ [] 0 0 := Stand.of_body Bd
 have e0 : s₁.heap = h0 := by rw [← hh, Bd.state]; rfl
 have N0 := Fr.nil n0
 have K00 : Keep h0 h0 [] := Keep.refl _ _
 show Rch p e below s₁ (entryFrame m #[(.int (1 : Int32)), (.int xa), (.int xb), (.int xc), (.int xd), (.int xe)] 6) (FinP s (Q_rm_mk_1 Z G1 xa xb xc xd xe h0 n0) 3 6)
 refine Rch.cast (ef_rm_mk_1 m G1 xa xb xc xd xe) ?_
 show Rch p e below s₁ (mkF m 0 #[.val (.int 1), .val (.int xa), .val (.int xb), .val (.int xc), .val (.int xd), .val (.int xe)] []) _
 refine w_iloadN (pc' := 1) X0 hx hby dm3_0 rfl rfl ?_
 refine w_ifYes (pc' := 7) X0 hx hby dm3_1 (XT.i0_ne_t (by decide)) (by decide) ?_
 refine w_iloadN (pc' := 8) X0 hx hby dm3_7 rfl rfl ?_
 refine w_iconst (pc' := 9) (v := 1) X0 hx hby dm3_8 rfl rfl ?_
 refine w_icmpNo (pc' := 12) X0 hx hby dm3_9 (XT.ii_ne_f (by decide)) rfl ?_
 obtain ⟨T453, h453, X453, e453, E453, A453, D453, -, st453⟩ := newO X0 hx hZ hown (wi hw 61 rfl) (wi hw 10 rfl) (wi hw 9 rfl) e0 (g := (mkF m 12 #[.val (.int 1), .val (.int xa), .val (.int xb), .val (.int xc), .val (.int xd), .val (.int xe)] [])) rfl (hb hby dm3_12) (by decide) (by decide)
 obtain ⟨a453, g453⟩ : ∃ z, z = h0.size := ⟨_, rfl⟩
 rw [← g453] at A453 D453 st453
 have ge454 : n0 ≤ a453 := Nat.le_trans Z0 (Nat.le_of_eq g453.symm)
 have Old456 := Old0.ext E453
 have Z457 := Nat.le_trans Z0 E453.1
 have Kp458 : Keep h0 h453 [] := K00.ext E453
 have f459 : Fld Z h453 a453 "java/lang/String" "coder" "B" (.int (0 : Int32)) := D453 (Or.inr (wi hw 13 rfl)) (ty := .byte) (by decide)
 have f460 : Fld Z h453 a453 "java/lang/String" "value" "[B" .null := D453 (Or.inr (wi hw 12 rfl)) (ty := (.array .byte)) (by decide)
 refine Rch.st (fun _ k => st453 _ k) ?_
 show Rch p e below T453 (mkF m 15 #[.val (.int 1), .val (.int xa), .val (.int xb), .val (.int xc), .val (.int xd), .val (.int xe)] [(.ref a453)]) _
 refine w_dup (pc' := 16) X453 hx hby dm3_15 rfl rfl ?_
 refine w_iconst (pc' := 17) (v := 1) X453 hx hby dm3_16 rfl rfl ?_
 obtain ⟨T461, h461, kc461, X461, e461, E461, A461, st461⟩ := newP X453 hx hZ (wi hw 62 rfl) e453 (g := (mkF m 17 #[.val (.int 1), .val (.int xa), .val (.int xb), .val (.int xc), .val (.int xd), .val (.int xe)] [(.int 1), (.ref a453), (.ref a453)])) rfl (hb hby dm3_17) rfl (by decide : ¬ ((1 : Int32) < (0 : Int32))) (cap := 1) (by decide : (1 : Int32).toNatClampNeg ≤ 1) (by decide) (by decide) (by decide)
 obtain ⟨a461, g461⟩ : ∃ z, z = h453.size := ⟨_, rfl⟩
 rw [← g461] at A461 st461
 have ne462 : a453 ≠ a461 := by rw [g461]; exact Nat.ne_of_lt A453.lt
 have ge463 : n0 ≤ a461 := Nat.le_trans Z457 (Nat.le_of_eq g461.symm)
 have f465 := A453.ext E461
 have f466 := f459.ext E461
 have f467 := f460.ext E461
 have Old468 := Old456.ext E461
 have Z469 := Nat.le_trans Z457 E461.1
 have Kp470 : Keep h0 h461 [] := Kp458.ext E461
 have f471 : Arv Z h461 a461 kc461 .char (1 : Int32) [(.int (0 : Int32))] (.int (0 : Int32)) := (Arv.new A461 (by decide : ¬ ((1 : Int32) < (0 : Int32)))).pad (pad_rep [] (.int (0 : Int32)) 1)
 refine Rch.st (fun _ k => st461 _ k) ?_
 show Rch p e below T461 (mkF m 19 #[.val (.int 1), .val (.int xa), .val (.int xb), .val (.int xc), .val (.int xd), .val (.int xe)] [(.ref a461), (.ref a453), (.ref a453)]) _
 refine w_dup (pc' := 20) X461 hx hby dm3_19 rfl rfl ?_
 refine w_iconst (pc' := 21) (v := 0) X461 hx hby dm3_20 rfl rfl ?_
 refine w_iloadN (pc' := 22) X461 hx hby dm3_21 rfl rfl ?_
 obtain ⟨T472, h472, X472, e472, W472, V472, st472⟩ := own_stC X461 hx hZ e461 f471 (j := (0 : Int32)) ⟨by decide, by decide⟩ 0 (by decide) (by decide : 0 < 1) (g := (mkF m 22 #[.val (.int 1), .val (.int xa), .val (.int xb), .val (.int xc), .val (.int xd), .val (.int xe)] [(.int xa), (.int 0), (.ref a461), (.ref a461), (.ref a453), (.ref a453)])) rfl rfl (hb hby dm3_22)
 have N473 := Fr.snoc X472 N0 ge463
 have f474 := f465.wr W472
 have f475 := f466.other W472 (Or.inl ne462)
 have f476 := f467.other W472 (Or.inl ne462)
 have Old477 := Old468.wr W472 ge463
 have Z478 := Nat.le_trans Z469 (Keep.of_wr W472).1
 have Kp479 : Keep h0 h472 [] := Kp470.wr W472 (Or.inr (Nat.le_trans Kp458.1 (Nat.le_of_eq g461.symm)))
 have f480 : Arv Z h472 a461 kc461 .char (1 : Int32) [(.int (nar .char xa))] (.int (0 : Int32)) := V472
 refine Rch.st (fun _ k => st472 _ k) ?_
 show Rch p e below T472 (mkF m 23 #[.val (.int 1), .val (.int xa), .val (.int xb), .val (.int xc), .val (.int xd), .val (.int xe)] [(.ref a461), (.ref a453), (.ref a453)]) _
 have f481 : Arv Z h472 a461 kc461 .char (1 : Int32) [(.int xa)] (.int (0 : Int32)) := by have z := f480; rw [ch_xa.nr] at z; exact z
 obtain ⟨_, _, ⟨T482, L482, k482, n482⟩, -, X482, ⟨Lc482, hQ482, l482, y482, z482⟩, st482⟩ := X472.specialBack hx (y := (⟨"java/lang/String", "<init>", "([C)V"⟩ : MethodName)) rfl hown (mvT hZ (wi hw 63 rfl)) (mvT hZ (wi hw 64 rfl)) (mvT hZ (wi hw 65 rfl)) (by decide) (backOf (W := 1) (rm_init1_1 l Z a0 hw [] G1 a453 a461 kc461 xa h472 n0 Z478 (O2) (P5) f474 f475 f476 f481 (ge454) (ne462) (ch_xa.le) Old477) hZ (wi hw 65 rfl) (wi hw 9 rfl) (by decide) (by decide)) (g := (mkF m 23 #[.val (.int 1), .val (.int xa), .val (.int xb), .val (.int xc), .val (.int xd), .val (.int xe)] [(.ref a461), (.ref a453), (.ref a453)])) rfl (by rw [hml]; rfl) (Steps.refl _) (a := a453) (argsL := [(.ref a461)]) (rest := [(.ref a453)]) (lenOf pd___C_V rfl) rfl (by show 2 * 0 + _ ≤ _; exact Nat.le_of_eq rfl) (hb hby dm3_23) (fun _ _ => ⟨rfl, e472, (by decide : 2 + 1 ≤ _), (by decide : 5 + 1 ≤ _)⟩)
 dsimp only [Pt.U, Pt.locs, Pt.cells, Pt.slots] at X482 l482 y482 z482 st482 hQ482
 subst l482 y482 z482
 obtain ⟨t_482, kt_482, rfl, NQ482, K482, pq482_0, fq482_0, fq482_1, fq482_2⟩ := hQ482
 have N483 := Fr.app N473 NQ482
 have f487 := f474.keep K482
 have Kp490 : Keep h0 T482.heap [] := Kp479.trans K482 (allS (Or.inr (Nat.le_trans K00.1 (Nat.le_of_eq g453.symm))) all0)
 refine Rch.st (fun _ k => st482.trans k) ?_
 show Rch p e below T482 (mkF m 26 #[.val (.int 1), .val (.int xa), .val (.int xb), .val (.int xc), .val (.int xd), .val (.int xe)] [(.ref a453)]) _
 exact Rch.retV X482 hx Bd.returns rfl (Or.inr (Or.inr (Or.inr (Or.inr ⟨rfl, rfl, rfl⟩)))) (hb hby dm3_26) (by rw [(rfl : T482.heap = T482.heap)]; exact ⟨a453, t_482, kt_482, rfl, N483, Kp490, (Nat.le_trans K00.1 (Nat.le_of_eq g453.symm)), (Nat.le_trans Kp479.1 pq482_0), f487, fq482_0, fq482_1, fq482_2⟩) (by decide) (by decide)

theorem ef_rm_mk_2 (m : MethodId) (G1 : Int32) (xa : Int32) (xb : Int32) (xc : Int32) (xd : Int32) (xe : Int32)  : entryFrame m #[(.int (2 : Int32)), (.int xa), (.int xb), (.int xc), (.int xd), (.int xe)] 6 = mkF m 0 #[.val (.int (2 : Int32)), .val (.int xa), .val (.int xb), .val (.int xc), .val (.int xd), .val (.int xe)] [] := by  first | (simp [entryFrame, mkF, argsToLocals, Value.category, maxLocals]; done) | rfl
def Q_rm_mk_2 (Z : State) (G1 : Int32) (xa : Int32) (xb : Int32) (xc : Int32) (xd : Int32) (xe : Int32) (h0 : Heap) (n0 : Nat) (v : Option Value) (h : Heap) (L : List Loc) : Prop := ∃ (ra : Addr) (t : Addr) (kt : ClassId), (v = some (.ref ra)) ∧ (Fr n0 L) ∧ (Keep h0 h []) ∧ (h0.size ≤ ra) ∧ (h0.size ≤ t) ∧ (Exa Z h ra "java/lang/String") ∧ (Fld Z h ra "java/lang/String" "coder" "B" (.int (0 : Int32))) ∧ (Fld Z h ra "java/lang/String" "value" "[B" (.ref t)) ∧ (Arv Z h t kt .byte (2 : Int32) [(.int (own_by xa)), (.int (own_by xb))] (.int (0 : Int32)))
set_option maxRecDepth 65536 in
set_option maxHeartbeats 40000000 in
theorem rm_mk_2 (l : Launch) (Z : State) (a0 : Array Value) (hw : ∀ d ∈ tables_1, d.before a0 Z = true) (ws : List Jvm.Cond) (G1 : Int32) (xa : Int32) (xb : Int32) (xc : Int32) (xd : Int32) (xe : Int32) (h0 : Heap) (n0 : Nat) (Z0 : n0 ≤ h0.size) (O2 : Sta Z Z.heap "java/lang/String" "COMPACT_STRINGS" "Z" (.int G1)) (P5 : ¬ G1 = 0) (ch_xa : Ch8 xa) (ch_xb : Ch8 xb) (Old0 : OldL Z n0 h0) :
    MetFree l (⟨"com/example/fascicle/fascicle/EntriesDirectoryOfPinLaw", "mk", "(ICCCCC)Ljava/lang/String;"⟩ : MethodName) (head1 (Jvm.Cond.code (⟨"com/example/fascicle/fascicle/EntriesDirectoryOfPinLaw", "mk", "(ICCCCC)Ljava/lang/String;"⟩ : MethodName) method_3_code 6 (some (.object "java/lang/String")) :: ws) ({ frames := 4, cells := 3, slots := 8, locals := 66 } : Room)) (fun a U => a = #[(.int (2 : Int32)), (.int xa), (.int xb), (.int xc), (.int xd), (.int xe)] ∧ Z.Warmed39 U.vm ∧ U.heap = h0) (fun _ _ _ _ _ => True) (fun _ U o U' => ∃ v L, o = .returned v ∧ Q_rm_mk_2 Z G1 xa xb xc xd xe h0 n0 v U'.heap L ∧ FrameEnd U o U' L ({ frames := 4, cells := 3, slots := 8, locals := 66 } : Room).cells ({ frames := 4, cells := 3, slots := 8, locals := 66 } : Room).slots) := by
 refine MetFree.of_bodySF (plainFor_of_name pn_com_example_fascicle_fascicle_EntriesDirectoryOfPinLaw) hisR ?_
 intro p e s m args below meth c s₁ Bd hml0 hP hK
 obtain ⟨rfl, hZ, hh⟩ := hP
 have hx := Bd.exec
 have hby := Bd.bytes
 have hml : c.maxLocals = 6 := hml0
 have hown : s.vm.findClass "com/example/fascicle/fascicle/EntriesDirectoryOfPinLaw" = some m.cls := findClass_of_methodNamed Bd.named
 have hnm := (name_of_methodNamed Bd.named Bd.method).1
 have X0 : Stand p l e ({ frames := 4, cells := 3, slots := 8, locals := 66 } : Room) s m #[(.int (2 : Int32)), (.int xa), (.int xb), (.int xc), (.int xd), (.int xe)] below meth c s₁ [] 0 0 := Stand.of_body Bd
 have e0 : s₁.heap = h0 := by rw [← hh, Bd.state]; rfl
 have N0 := Fr.nil n0
 have K00 : Keep h0 h0 [] := Keep.refl _ _
 show Rch p e below s₁ (entryFrame m #[(.int (2 : Int32)), (.int xa), (.int xb), (.int xc), (.int xd), (.int xe)] 6) (FinP s (Q_rm_mk_2 Z G1 xa xb xc xd xe h0 n0) 3 8)
 refine Rch.cast (ef_rm_mk_2 m G1 xa xb xc xd xe) ?_
 show Rch p e below s₁ (mkF m 0 #[.val (.int 2), .val (.int xa), .val (.int xb), .val (.int xc), .val (.int xd), .val (.int xe)] []) _
 refine w_iloadN (pc' := 1) X0 hx hby dm3_0 rfl rfl ?_
 refine w_ifYes (pc' := 7) X0 hx hby dm3_1 (XT.i0_ne_t (by decide)) (by decide) ?_
 refine w_iloadN (pc' := 8) X0 hx hby dm3_7 rfl rfl ?_
 refine w_iconst (pc' := 9) (v := 1) X0 hx hby dm3_8 rfl rfl ?_
 refine w_icmpYes (pc' := 27) X0 hx hby dm3_9 (XT.ii_ne_t (by decide)) (by decide) ?_
 refine w_iloadN (pc' := 28) X0 hx hby dm3_27 rfl rfl ?_
 refine w_iconst (pc' := 29) (v := 2) X0 hx hby dm3_28 rfl rfl ?_
 refine w_icmpNo (pc' := 32) X0 hx hby dm3_29 (XT.ii_ne_f (by decide)) rfl ?_
 obtain ⟨T492, h492, X492, e492, E492, A492, D492, -, st492⟩ := newO X0 hx hZ hown (wi hw 61 rfl) (wi hw 10 rfl) (wi hw 9 rfl) e0 (g := (mkF m 32 #[.val (.int 2), .val (.int xa), .val (.int xb), .val (.int xc), .val (.int xd), .val (.int xe)] [])) rfl (hb hby dm3_32) (by decide) (by decide)
 obtain ⟨a492, g492⟩ : ∃ z, z = h0.size := ⟨_, rfl⟩
 rw [← g492] at A492 D492 st492
 have ge493 : n0 ≤ a492 := Nat.le_trans Z0 (Nat.le_of_eq g492.symm)
 have Old495 := Old0.ext E492
 have Z496 := Nat.le_trans Z0 E492.1
 have Kp497 : Keep h0 h492 [] := K00.ext E492
 have f498 : Fld Z h492 a492 "java/lang/String" "coder" "B" (.int (0 : Int32)) := D492 (Or.inr (wi hw 13 rfl)) (ty := .byte) (by decide)
 have f499 : Fld Z h492 a492 "java/lang/String" "value" "[B" .null := D492 (Or.inr (wi hw 12 rfl)) (ty := (.array .byte)) (by decide)
 refine Rch.st (fun _ k => st492 _ k) ?_
 show Rch p e below T492 (mkF m 35 #[.val (.int 2), .val (.int xa), .val (.int xb), .val (.int xc), .val (.int xd), .val (.int xe)] [(.ref a492)]) _
 refine w_dup (pc' := 36) X492 hx hby dm3_35 rfl rfl ?_
 refine w_iconst (pc' := 37) (v := 2) X492 hx hby dm3_36 rfl rfl ?_
 obtain ⟨T500, h500, kc500, X500, e500, E500, A500, st500⟩ := newP X492 hx hZ (wi hw 62 rfl) e492 (g := (mkF m 37 #[.val (.int 2), .val (.int xa), .val (.int xb), .val (.int xc), .val (.int xd), .val (.int xe)] [(.int 2), (.ref a492), (.ref a492)])) rfl (hb hby dm3_37) rfl (by decide : ¬ ((2 : Int32) < (0 : Int32))) (cap := 2) (by decide : (2 : Int32).toNatClampNeg ≤ 2) (by decide) (by decide) (by decide)
 obtain ⟨a500, g500⟩ : ∃ z, z = h492.size := ⟨_, rfl⟩
 rw [← g500] at A500 st500
 have ne501 : a492 ≠ a500 := by rw [g500]; exact Nat.ne_of_lt A492.lt
 have ge502 : n0 ≤ a500 := Nat.le_trans Z496 (Nat.le_of_eq g500.symm)
 have f504 := A492.ext E500
 have f505 := f498.ext E500
 have f506 := f499.ext E500
 have Old507 := Old495.ext E500
 have Z508 := Nat.le_trans Z496 E500.1
 have Kp509 : Keep h0 h500 [] := Kp497.ext E500
 have f510 : Arv Z h500 a500 kc500 .char (2 : Int32) [(.int (0 : Int32)), (.int (0 : Int32))] (.int (0 : Int32)) := (Arv.new A500 (by decide : ¬ ((2 : Int32) < (0 : Int32)))).pad (pad_rep [] (.int (0 : Int32)) 2)
 refine Rch.st (fun _ k => st500 _ k) ?_
 show Rch p e below T500 (mkF m 39 #[.val (.int 2), .val (.int xa), .val (.int xb), .val (.int xc), .val (.int xd), .val (.int xe)] [(.ref a500), (.ref a492), (.ref a492)]) _
 refine w_dup (pc' := 40) X500 hx hby dm3_39 rfl rfl ?_
 refine w_iconst (pc' := 41) (v := 0) X500 hx hby dm3_40 rfl rfl ?_
 refine w_iloadN (pc' := 42) X500 hx hby dm3_41 rfl rfl ?_
 obtain ⟨T511, h511, X511, e511, W511, V511, st511⟩ := own_stC X500 hx hZ e500 f510 (j := (0 : Int32)) ⟨by decide, by decide⟩ 0 (by decide) (by decide : 0 < 2) (g := (mkF m 42 #[.val (.int 2), .val (.int xa), .val (.int xb), .val (.int xc), .val (.int xd), .val (.int xe)] [(.int xa), (.int 0), (.ref a500), (.ref a500), (.ref a492), (.ref a492)])) rfl rfl (hb hby dm3_42)
 have N512 := Fr.snoc X511 N0 ge502
 have f513 := f504.wr W511
 have f514 := f505.other W511 (Or.inl ne501)
 have f515 := f506.other W511 (Or.inl ne501)
 have Old516 := Old507.wr W511 ge502
 have Z517 := Nat.le_trans Z508 (Keep.of_wr W511).1
 have Kp518 : Keep h0 h511 [] := Kp509.wr W511 (Or.inr (Nat.le_trans Kp497.1 (Nat.le_of_eq g500.symm)))
 have f519 : Arv Z h511 a500 kc500 .char (2 : Int32) [(.int (nar .char xa)), (.int (0 : Int32))] (.int (0 : Int32)) := V511
 refine Rch.st (fun _ k => st511 _ k) ?_
 show Rch p e below T511 (mkF m 43 #[.val (.int 2), .val (.int xa), .val (.int xb), .val (.int xc), .val (.int xd), .val (.int xe)] [(.ref a500), (.ref a492), (.ref a492)]) _
 refine w_dup (pc' := 44) X511 hx hby dm3_43 rfl rfl ?_
 refine w_iconst (pc' := 45) (v := 1) X511 hx hby dm3_44 rfl rfl ?_
 refine w_iloadN (pc' := 46) X511 hx hby dm3_45 rfl rfl ?_
 obtain ⟨T520, h520, X520, e520, W520, V520, st520⟩ := own_stC X511 hx hZ e511 f519 (j := (1 : Int32)) ⟨by decide, by decide⟩ 1 (by decide) (by decide : 1 < 2) (g := (mkF m 46 #[.val (.int 2), .val (.int xa), .val (.int xb), .val (.int xc), .val (.int xd), .val (.int xe)] [(.int xb), (.int 1), (.ref a500), (.ref a500), (.ref a492), (.ref a492)])) rfl rfl (hb hby dm3_46)
 have N521 := Fr.snoc X520 N512 ge502
 have f522 := f513.wr W520
 have f523 := f514.other W520 (Or.inl ne501)
 have f524 := f515.other W520 (Or.inl ne501)
 have Old525 := Old516.wr W520 ge502
 have Z526 := Nat.le_trans Z517 (Keep.of_wr W520).1
 have Kp527 : Keep h0 h520 [] := Kp518.wr W520 (Or.inr (Nat.le_trans Kp497.1 (Nat.le_of_eq g500.symm)))
 have f528 : Arv Z h520 a500 kc500 .char (2 : Int32) [(.int (nar .char xa)), (.int (nar .char xb))] (.int (0 : Int32)) := V520
 refine Rch.st (fun _ k => st520 _ k) ?_
 show Rch p e below T520 (mkF m 47 #[.val (.int 2), .val (.int xa), .val (.int xb), .val (.int xc), .val (.int xd), .val (.int xe)] [(.ref a500), (.ref a492), (.ref a492)]) _
 have f529 : Arv Z h520 a500 kc500 .char (2 : Int32) [(.int xa), (.int xb)] (.int (0 : Int32)) := by have z := f528; rw [ch_xa.nr, ch_xb.nr] at z; exact z
 obtain ⟨_, _, ⟨T530, L530, k530, n530⟩, -, X530, ⟨Lc530, hQ530, l530, y530, z530⟩, st530⟩ := X520.specialBack hx (y := (⟨"java/lang/String", "<init>", "([C)V"⟩ : MethodName)) rfl hown (mvT hZ (wi hw 63 rfl)) (mvT hZ (wi hw 64 rfl)) (mvT hZ (wi hw 65 rfl)) (by decide) (backOf (W := 1) (rm_init1_2 l Z a0 hw [] G1 a492 a500 kc500 xa xb h520 n0 Z526 (O2) (P5) f522 f523 f524 f529 (ge493) (ne501) (ch_xa.le) (ch_xb.le) Old525) hZ (wi hw 65 rfl) (wi hw 9 rfl) (by decide) (by decide)) (g := (mkF m 47 #[.val (.int 2), .val (.int xa), .val (.int xb), .val (.int xc), .val (.int xd), .val (.int xe)] [(.ref a500), (.ref a492), (.ref a492)])) rfl (by rw [hml]; rfl) (Steps.refl _) (a := a492) (argsL := [(.ref a500)]) (rest := [(.ref a492)]) (lenOf pd___C_V rfl) rfl (by show 2 * 0 + _ ≤ _; exact Nat.le_of_eq rfl) (hb hby dm3_47) (fun _ _ => ⟨rfl, e520, (by decide : 2 + 1 ≤ _), (by decide : 6 + 2 ≤ _)⟩)
 dsimp only [Pt.U, Pt.locs, Pt.cells, Pt.slots] at X530 l530 y530 z530 st530 hQ530
 subst l530 y530 z530
 obtain ⟨t_530, kt_530, rfl, NQ530, K530, pq530_0, fq530_0, fq530_1, fq530_2⟩ := hQ530
 have N531 := Fr.app N521 NQ530
 have f535 := f522.keep K530
 have Kp538 : Keep h0 T530.heap [] := Kp527.trans K530 (allS (Or.inr (Nat.le_trans K00.1 (Nat.le_of_eq g492.symm))) all0)
 refine Rch.st (fun _ k => st530.trans k) ?_
 show Rch p e below T530 (mkF m 50 #[.val (.int 2), .val (.int xa), .val (.int xb), .val (.int xc), .val (.int xd), .val (.int xe)] [(.ref a492)]) _
 exact Rch.retV X530 hx Bd.returns rfl (Or.inr (Or.inr (Or.inr (Or.inr ⟨rfl, rfl, rfl⟩)))) (hb hby dm3_50) (by rw [(rfl : T530.heap = T530.heap)]; exact ⟨a492, t_530, kt_530, rfl, N531, Kp538, (Nat.le_trans K00.1 (Nat.le_of_eq g492.symm)), (Nat.le_trans Kp527.1 pq530_0), f535, fq530_0, fq530_1, fq530_2⟩) (by decide) (by decide)

theorem ef_rm_mk_3 (m : MethodId) (G1 : Int32) (xa : Int32) (xb : Int32) (xc : Int32) (xd : Int32) (xe : Int32)  : entryFrame m #[(.int (3 : Int32)), (.int xa), (.int xb), (.int xc), (.int xd), (.int xe)] 6 = mkF m 0 #[.val (.int (3 : Int32)), .val (.int xa), .val (.int xb), .val (.int xc), .val (.int xd), .val (.int xe)] [] := by  first | (simp [entryFrame, mkF, argsToLocals, Value.category, maxLocals]; done) | rfl
def Q_rm_mk_3 (Z : State) (G1 : Int32) (xa : Int32) (xb : Int32) (xc : Int32) (xd : Int32) (xe : Int32) (h0 : Heap) (n0 : Nat) (v : Option Value) (h : Heap) (L : List Loc) : Prop := ∃ (ra : Addr) (t : Addr) (kt : ClassId), (v = some (.ref ra)) ∧ (Fr n0 L) ∧ (Keep h0 h []) ∧ (h0.size ≤ ra) ∧ (h0.size ≤ t) ∧ (Exa Z h ra "java/lang/String") ∧ (Fld Z h ra "java/lang/String" "coder" "B" (.int (0 : Int32))) ∧ (Fld Z h ra "java/lang/String" "value" "[B" (.ref t)) ∧ (Arv Z h t kt .byte (3 : Int32) [(.int (own_by xa)), (.int (own_by xb)), (.int (own_by xc))] (.int (0 : Int32)))
set_option maxRecDepth 65536 in
set_option maxHeartbeats 40000000 in
theorem rm_mk_3 (l : Launch) (Z : State) (a0 : Array Value) (hw : ∀ d ∈ tables_1, d.before a0 Z = true) (ws : List Jvm.Cond) (G1 : Int32) (xa : Int32) (xb : Int32) (xc : Int32) (xd : Int32) (xe : Int32) (h0 : Heap) (n0 : Nat) (Z0 : n0 ≤ h0.size) (O2 : Sta Z Z.heap "java/lang/String" "COMPACT_STRINGS" "Z" (.int G1)) (P5 : ¬ G1 = 0) (ch_xa : Ch8 xa) (ch_xb : Ch8 xb) (ch_xc : Ch8 xc) (Old0 : OldL Z n0 h0) :
    MetFree l (⟨"com/example/fascicle/fascicle/EntriesDirectoryOfPinLaw", "mk", "(ICCCCC)Ljava/lang/String;"⟩ : MethodName) (head1 (Jvm.Cond.code (⟨"com/example/fascicle/fascicle/EntriesDirectoryOfPinLaw", "mk", "(ICCCCC)Ljava/lang/String;"⟩ : MethodName) method_3_code 6 (some (.object "java/lang/String")) :: ws) ({ frames := 4, cells := 3, slots := 10, locals := 66 } : Room)) (fun a U => a = #[(.int (3 : Int32)), (.int xa), (.int xb), (.int xc), (.int xd), (.int xe)] ∧ Z.Warmed39 U.vm ∧ U.heap = h0) (fun _ _ _ _ _ => True) (fun _ U o U' => ∃ v L, o = .returned v ∧ Q_rm_mk_3 Z G1 xa xb xc xd xe h0 n0 v U'.heap L ∧ FrameEnd U o U' L ({ frames := 4, cells := 3, slots := 10, locals := 66 } : Room).cells ({ frames := 4, cells := 3, slots := 10, locals := 66 } : Room).slots) := by
 refine MetFree.of_bodySF (plainFor_of_name pn_com_example_fascicle_fascicle_EntriesDirectoryOfPinLaw) hisR ?_
 intro p e s m args below meth c s₁ Bd hml0 hP hK
 obtain ⟨rfl, hZ, hh⟩ := hP
 have hx := Bd.exec
 have hby := Bd.bytes
 have hml : c.maxLocals = 6 := hml0
 have hown : s.vm.findClass "com/example/fascicle/fascicle/EntriesDirectoryOfPinLaw" = some m.cls := findClass_of_methodNamed Bd.named
 have hnm := (name_of_methodNamed Bd.named Bd.method).1
 have X0 : Stand p l e ({ frames := 4, cells := 3, slots := 10, locals := 66 } : Room) s m #[(.int (3 : Int32)), (.int xa), (.int xb), (.int xc), (.int xd), (.int xe)] below meth c s₁ [] 0 0 := Stand.of_body Bd
 have e0 : s₁.heap = h0 := by rw [← hh, Bd.state]; rfl
 have N0 := Fr.nil n0
 have K00 : Keep h0 h0 [] := Keep.refl _ _
 show Rch p e below s₁ (entryFrame m #[(.int (3 : Int32)), (.int xa), (.int xb), (.int xc), (.int xd), (.int xe)] 6) (FinP s (Q_rm_mk_3 Z G1 xa xb xc xd xe h0 n0) 3 10)
 refine Rch.cast (ef_rm_mk_3 m G1 xa xb xc xd xe) ?_
 show Rch p e below s₁ (mkF m 0 #[.val (.int 3), .val (.int xa), .val (.int xb), .val (.int xc), .val (.int xd), .val (.int xe)] []) _
 refine w_iloadN (pc' := 1) X0 hx hby dm3_0 rfl rfl ?_
 refine w_ifYes (pc' := 7) X0 hx hby dm3_1 (XT.i0_ne_t (by decide)) (by decide) ?_
 refine w_iloadN (pc' := 8) X0 hx hby dm3_7 rfl rfl ?_
 refine w_iconst (pc' := 9) (v := 1) X0 hx hby dm3_8 rfl rfl ?_
 refine w_icmpYes (pc' := 27) X0 hx hby dm3_9 (XT.ii_ne_t (by decide)) (by decide) ?_
 refine w_iloadN (pc' := 28) X0 hx hby dm3_27 rfl rfl ?_
 refine w_iconst (pc' := 29) (v := 2) X0 hx hby dm3_28 rfl rfl ?_
 refine w_icmpYes (pc' := 51) X0 hx hby dm3_29 (XT.ii_ne_t (by decide)) (by decide) ?_
 refine w_iloadN (pc' := 52) X0 hx hby dm3_51 rfl rfl ?_
 refine w_iconst (pc' := 53) (v := 3) X0 hx hby dm3_52 rfl rfl ?_
 refine w_icmpNo (pc' := 56) X0 hx hby dm3_53 (XT.ii_ne_f (by decide)) rfl ?_
 obtain ⟨T540, h540, X540, e540, E540, A540, D540, -, st540⟩ := newO X0 hx hZ hown (wi hw 61 rfl) (wi hw 10 rfl) (wi hw 9 rfl) e0 (g := (mkF m 56 #[.val (.int 3), .val (.int xa), .val (.int xb), .val (.int xc), .val (.int xd), .val (.int xe)] [])) rfl (hb hby dm3_56) (by decide) (by decide)
 obtain ⟨a540, g540⟩ : ∃ z, z = h0.size := ⟨_, rfl⟩
 rw [← g540] at A540 D540 st540
 have ge541 : n0 ≤ a540 := Nat.le_trans Z0 (Nat.le_of_eq g540.symm)
 have Old543 := Old0.ext E540
 have Z544 := Nat.le_trans Z0 E540.1
 have Kp545 : Keep h0 h540 [] := K00.ext E540
 have f546 : Fld Z h540 a540 "java/lang/String" "coder" "B" (.int (0 : Int32)) := D540 (Or.inr (wi hw 13 rfl)) (ty := .byte) (by decide)
 have f547 : Fld Z h540 a540 "java/lang/String" "value" "[B" .null := D540 (Or.inr (wi hw 12 rfl)) (ty := (.array .byte)) (by decide)
 refine Rch.st (fun _ k => st540 _ k) ?_
 show Rch p e below T540 (mkF m 59 #[.val (.int 3), .val (.int xa), .val (.int xb), .val (.int xc), .val (.int xd), .val (.int xe)] [(.ref a540)]) _
 refine w_dup (pc' := 60) X540 hx hby dm3_59 rfl rfl ?_
 refine w_iconst (pc' := 61) (v := 3) X540 hx hby dm3_60 rfl rfl ?_
 obtain ⟨T548, h548, kc548, X548, e548, E548, A548, st548⟩ := newP X540 hx hZ (wi hw 62 rfl) e540 (g := (mkF m 61 #[.val (.int 3), .val (.int xa), .val (.int xb), .val (.int xc), .val (.int xd), .val (.int xe)] [(.int 3), (.ref a540), (.ref a540)])) rfl (hb hby dm3_61) rfl (by decide : ¬ ((3 : Int32) < (0 : Int32))) (cap := 3) (by decide : (3 : Int32).toNatClampNeg ≤ 3) (by decide) (by decide) (by decide)
 obtain ⟨a548, g548⟩ : ∃ z, z = h540.size := ⟨_, rfl⟩
 rw [← g548] at A548 st548
 have ne549 : a540 ≠ a548 := by rw [g548]; exact Nat.ne_of_lt A540.lt
 have ge550 : n0 ≤ a548 := Nat.le_trans Z544 (Nat.le_of_eq g548.symm)
 have f552 := A540.ext E548
 have f553 := f546.ext E548
 have f554 := f547.ext E548
 have Old555 := Old543.ext E548
 have Z556 := Nat.le_trans Z544 E548.1
 have Kp557 : Keep h0 h548 [] := Kp545.ext E548
 have f558 : Arv Z h548 a548 kc548 .char (3 : Int32) [(.int (0 : Int32)), (.int (0 : Int32)), (.int (0 : Int32))] (.int (0 : Int32)) := (Arv.new A548 (by decide : ¬ ((3 : Int32) < (0 : Int32)))).pad (pad_rep [] (.int (0 : Int32)) 3)
 refine Rch.st (fun _ k => st548 _ k) ?_
 show Rch p e below T548 (mkF m 63 #[.val (.int 3), .val (.int xa), .val (.int xb), .val (.int xc), .val (.int xd), .val (.int xe)] [(.ref a548), (.ref a540), (.ref a540)]) _
 refine w_dup (pc' := 64) X548 hx hby dm3_63 rfl rfl ?_
 refine w_iconst (pc' := 65) (v := 0) X548 hx hby dm3_64 rfl rfl ?_
 refine w_iloadN (pc' := 66) X548 hx hby dm3_65 rfl rfl ?_
 obtain ⟨T559, h559, X559, e559, W559, V559, st559⟩ := own_stC X548 hx hZ e548 f558 (j := (0 : Int32)) ⟨by decide, by decide⟩ 0 (by decide) (by decide : 0 < 3) (g := (mkF m 66 #[.val (.int 3), .val (.int xa), .val (.int xb), .val (.int xc), .val (.int xd), .val (.int xe)] [(.int xa), (.int 0), (.ref a548), (.ref a548), (.ref a540), (.ref a540)])) rfl rfl (hb hby dm3_66)
 have N560 := Fr.snoc X559 N0 ge550
 have f561 := f552.wr W559
 have f562 := f553.other W559 (Or.inl ne549)
 have f563 := f554.other W559 (Or.inl ne549)
 have Old564 := Old555.wr W559 ge550
 have Z565 := Nat.le_trans Z556 (Keep.of_wr W559).1
 have Kp566 : Keep h0 h559 [] := Kp557.wr W559 (Or.inr (Nat.le_trans Kp545.1 (Nat.le_of_eq g548.symm)))
 have f567 : Arv Z h559 a548 kc548 .char (3 : Int32) [(.int (nar .char xa)), (.int (0 : Int32)), (.int (0 : Int32))] (.int (0 : Int32)) := V559
 refine Rch.st (fun _ k => st559 _ k) ?_
 show Rch p e below T559 (mkF m 67 #[.val (.int 3), .val (.int xa), .val (.int xb), .val (.int xc), .val (.int xd), .val (.int xe)] [(.ref a548), (.ref a540), (.ref a540)]) _
 refine w_dup (pc' := 68) X559 hx hby dm3_67 rfl rfl ?_
 refine w_iconst (pc' := 69) (v := 1) X559 hx hby dm3_68 rfl rfl ?_
 refine w_iloadN (pc' := 70) X559 hx hby dm3_69 rfl rfl ?_
 obtain ⟨T568, h568, X568, e568, W568, V568, st568⟩ := own_stC X559 hx hZ e559 f567 (j := (1 : Int32)) ⟨by decide, by decide⟩ 1 (by decide) (by decide : 1 < 3) (g := (mkF m 70 #[.val (.int 3), .val (.int xa), .val (.int xb), .val (.int xc), .val (.int xd), .val (.int xe)] [(.int xb), (.int 1), (.ref a548), (.ref a548), (.ref a540), (.ref a540)])) rfl rfl (hb hby dm3_70)
 have N569 := Fr.snoc X568 N560 ge550
 have f570 := f561.wr W568
 have f571 := f562.other W568 (Or.inl ne549)
 have f572 := f563.other W568 (Or.inl ne549)
 have Old573 := Old564.wr W568 ge550
 have Z574 := Nat.le_trans Z565 (Keep.of_wr W568).1
 have Kp575 : Keep h0 h568 [] := Kp566.wr W568 (Or.inr (Nat.le_trans Kp545.1 (Nat.le_of_eq g548.symm)))
 have f576 : Arv Z h568 a548 kc548 .char (3 : Int32) [(.int (nar .char xa)), (.int (nar .char xb)), (.int (0 : Int32))] (.int (0 : Int32)) := V568
 refine Rch.st (fun _ k => st568 _ k) ?_
 show Rch p e below T568 (mkF m 71 #[.val (.int 3), .val (.int xa), .val (.int xb), .val (.int xc), .val (.int xd), .val (.int xe)] [(.ref a548), (.ref a540), (.ref a540)]) _
 refine w_dup (pc' := 72) X568 hx hby dm3_71 rfl rfl ?_
 refine w_iconst (pc' := 73) (v := 2) X568 hx hby dm3_72 rfl rfl ?_
 refine w_iloadN (pc' := 74) X568 hx hby dm3_73 rfl rfl ?_
 obtain ⟨T577, h577, X577, e577, W577, V577, st577⟩ := own_stC X568 hx hZ e568 f576 (j := (2 : Int32)) ⟨by decide, by decide⟩ 2 (by decide) (by decide : 2 < 3) (g := (mkF m 74 #[.val (.int 3), .val (.int xa), .val (.int xb), .val (.int xc), .val (.int xd), .val (.int xe)] [(.int xc), (.int 2), (.ref a548), (.ref a548), (.ref a540), (.ref a540)])) rfl rfl (hb hby dm3_74)
 have N578 := Fr.snoc X577 N569 ge550
 have f579 := f570.wr W577
 have f580 := f571.other W577 (Or.inl ne549)
 have f581 := f572.other W577 (Or.inl ne549)
 have Old582 := Old573.wr W577 ge550
 have Z583 := Nat.le_trans Z574 (Keep.of_wr W577).1
 have Kp584 : Keep h0 h577 [] := Kp575.wr W577 (Or.inr (Nat.le_trans Kp545.1 (Nat.le_of_eq g548.symm)))
 have f585 : Arv Z h577 a548 kc548 .char (3 : Int32) [(.int (nar .char xa)), (.int (nar .char xb)), (.int (nar .char xc))] (.int (0 : Int32)) := V577
 refine Rch.st (fun _ k => st577 _ k) ?_
 show Rch p e below T577 (mkF m 75 #[.val (.int 3), .val (.int xa), .val (.int xb), .val (.int xc), .val (.int xd), .val (.int xe)] [(.ref a548), (.ref a540), (.ref a540)]) _
 have f586 : Arv Z h577 a548 kc548 .char (3 : Int32) [(.int xa), (.int xb), (.int xc)] (.int (0 : Int32)) := by have z := f585; rw [ch_xa.nr, ch_xb.nr, ch_xc.nr] at z; exact z
 obtain ⟨_, _, ⟨T587, L587, k587, n587⟩, -, X587, ⟨Lc587, hQ587, l587, y587, z587⟩, st587⟩ := X577.specialBack hx (y := (⟨"java/lang/String", "<init>", "([C)V"⟩ : MethodName)) rfl hown (mvT hZ (wi hw 63 rfl)) (mvT hZ (wi hw 64 rfl)) (mvT hZ (wi hw 65 rfl)) (by decide) (backOf (W := 1) (rm_init1_3 l Z a0 hw [] G1 a540 a548 kc548 xa xb xc h577 n0 Z583 (O2) (P5) f579 f580 f581 f586 (ge541) (ne549) (ch_xa.le) (ch_xb.le) (ch_xc.le) Old582) hZ (wi hw 65 rfl) (wi hw 9 rfl) (by decide) (by decide)) (g := (mkF m 75 #[.val (.int 3), .val (.int xa), .val (.int xb), .val (.int xc), .val (.int xd), .val (.int xe)] [(.ref a548), (.ref a540), (.ref a540)])) rfl (by rw [hml]; rfl) (Steps.refl _) (a := a540) (argsL := [(.ref a548)]) (rest := [(.ref a540)]) (lenOf pd___C_V rfl) rfl (by show 2 * 0 + _ ≤ _; exact Nat.le_of_eq rfl) (hb hby dm3_75) (fun _ _ => ⟨rfl, e577, (by decide : 2 + 1 ≤ _), (by decide : 7 + 3 ≤ _)⟩)
 dsimp only [Pt.U, Pt.locs, Pt.cells, Pt.slots] at X587 l587 y587 z587 st587 hQ587
 subst l587 y587 z587
 obtain ⟨t_587, kt_587, rfl, NQ587, K587, pq587_0, fq587_0, fq587_1, fq587_2⟩ := hQ587
 have N588 := Fr.app N578 NQ587
 have f592 := f579.keep K587
 have Kp595 : Keep h0 T587.heap [] := Kp584.trans K587 (allS (Or.inr (Nat.le_trans K00.1 (Nat.le_of_eq g540.symm))) all0)
 refine Rch.st (fun _ k => st587.trans k) ?_
 show Rch p e below T587 (mkF m 78 #[.val (.int 3), .val (.int xa), .val (.int xb), .val (.int xc), .val (.int xd), .val (.int xe)] [(.ref a540)]) _
 exact Rch.retV X587 hx Bd.returns rfl (Or.inr (Or.inr (Or.inr (Or.inr ⟨rfl, rfl, rfl⟩)))) (hb hby dm3_78) (by rw [(rfl : T587.heap = T587.heap)]; exact ⟨a540, t_587, kt_587, rfl, N588, Kp595, (Nat.le_trans K00.1 (Nat.le_of_eq g540.symm)), (Nat.le_trans Kp584.1 pq587_0), f592, fq587_0, fq587_1, fq587_2⟩) (by decide) (by decide)

theorem ef_rm_mk_4 (m : MethodId) (G1 : Int32) (xa : Int32) (xb : Int32) (xc : Int32) (xd : Int32) (xe : Int32)  : entryFrame m #[(.int (4 : Int32)), (.int xa), (.int xb), (.int xc), (.int xd), (.int xe)] 6 = mkF m 0 #[.val (.int (4 : Int32)), .val (.int xa), .val (.int xb), .val (.int xc), .val (.int xd), .val (.int xe)] [] := by  first | (simp [entryFrame, mkF, argsToLocals, Value.category, maxLocals]; done) | rfl
def Q_rm_mk_4 (Z : State) (G1 : Int32) (xa : Int32) (xb : Int32) (xc : Int32) (xd : Int32) (xe : Int32) (h0 : Heap) (n0 : Nat) (v : Option Value) (h : Heap) (L : List Loc) : Prop := ∃ (ra : Addr) (t : Addr) (kt : ClassId), (v = some (.ref ra)) ∧ (Fr n0 L) ∧ (Keep h0 h []) ∧ (h0.size ≤ ra) ∧ (h0.size ≤ t) ∧ (Exa Z h ra "java/lang/String") ∧ (Fld Z h ra "java/lang/String" "coder" "B" (.int (0 : Int32))) ∧ (Fld Z h ra "java/lang/String" "value" "[B" (.ref t)) ∧ (Arv Z h t kt .byte (4 : Int32) [(.int (own_by xa)), (.int (own_by xb)), (.int (own_by xc)), (.int (own_by xd))] (.int (0 : Int32)))
set_option maxRecDepth 65536 in
set_option maxHeartbeats 40000000 in
theorem rm_mk_4 (l : Launch) (Z : State) (a0 : Array Value) (hw : ∀ d ∈ tables_1, d.before a0 Z = true) (ws : List Jvm.Cond) (G1 : Int32) (xa : Int32) (xb : Int32) (xc : Int32) (xd : Int32) (xe : Int32) (h0 : Heap) (n0 : Nat) (Z0 : n0 ≤ h0.size) (O2 : Sta Z Z.heap "java/lang/String" "COMPACT_STRINGS" "Z" (.int G1)) (P5 : ¬ G1 = 0) (ch_xa : Ch8 xa) (ch_xb : Ch8 xb) (ch_xc : Ch8 xc) (ch_xd : Ch8 xd) (Old0 : OldL Z n0 h0) :
    MetFree l (⟨"com/example/fascicle/fascicle/EntriesDirectoryOfPinLaw", "mk", "(ICCCCC)Ljava/lang/String;"⟩ : MethodName) (head1 (Jvm.Cond.code (⟨"com/example/fascicle/fascicle/EntriesDirectoryOfPinLaw", "mk", "(ICCCCC)Ljava/lang/String;"⟩ : MethodName) method_3_code 6 (some (.object "java/lang/String")) :: ws) ({ frames := 4, cells := 3, slots := 12, locals := 66 } : Room)) (fun a U => a = #[(.int (4 : Int32)), (.int xa), (.int xb), (.int xc), (.int xd), (.int xe)] ∧ Z.Warmed39 U.vm ∧ U.heap = h0) (fun _ _ _ _ _ => True) (fun _ U o U' => ∃ v L, o = .returned v ∧ Q_rm_mk_4 Z G1 xa xb xc xd xe h0 n0 v U'.heap L ∧ FrameEnd U o U' L ({ frames := 4, cells := 3, slots := 12, locals := 66 } : Room).cells ({ frames := 4, cells := 3, slots := 12, locals := 66 } : Room).slots) := by
 refine MetFree.of_bodySF (plainFor_of_name pn_com_example_fascicle_fascicle_EntriesDirectoryOfPinLaw) hisR ?_
 intro p e s m args below meth c s₁ Bd hml0 hP hK
 obtain ⟨rfl, hZ, hh⟩ := hP
 have hx := Bd.exec
 have hby := Bd.bytes
 have hml : c.maxLocals = 6 := hml0
 have hown : s.vm.findClass "com/example/fascicle/fascicle/EntriesDirectoryOfPinLaw" = some m.cls := findClass_of_methodNamed Bd.named
 have hnm := (name_of_methodNamed Bd.named Bd.method).1
 have X0 : Stand p l e ({ frames := 4, cells := 3, slots := 12, locals := 66 } : Room) s m #[(.int (4 : Int32)), (.int xa), (.int xb), (.int xc), (.int xd), (.int xe)] below meth c s₁ [] 0 0 := Stand.of_body Bd
 have e0 : s₁.heap = h0 := by rw [← hh, Bd.state]; rfl
 have N0 := Fr.nil n0
 have K00 : Keep h0 h0 [] := Keep.refl _ _
 show Rch p e below s₁ (entryFrame m #[(.int (4 : Int32)), (.int xa), (.int xb), (.int xc), (.int xd), (.int xe)] 6) (FinP s (Q_rm_mk_4 Z G1 xa xb xc xd xe h0 n0) 3 12)
 refine Rch.cast (ef_rm_mk_4 m G1 xa xb xc xd xe) ?_
 show Rch p e below s₁ (mkF m 0 #[.val (.int 4), .val (.int xa), .val (.int xb), .val (.int xc), .val (.int xd), .val (.int xe)] []) _
 refine w_iloadN (pc' := 1) X0 hx hby dm3_0 rfl rfl ?_
 refine w_ifYes (pc' := 7) X0 hx hby dm3_1 (XT.i0_ne_t (by decide)) (by decide) ?_
 refine w_iloadN (pc' := 8) X0 hx hby dm3_7 rfl rfl ?_
 refine w_iconst (pc' := 9) (v := 1) X0 hx hby dm3_8 rfl rfl ?_
 refine w_icmpYes (pc' := 27) X0 hx hby dm3_9 (XT.ii_ne_t (by decide)) (by decide) ?_
 refine w_iloadN (pc' := 28) X0 hx hby dm3_27 rfl rfl ?_
 refine w_iconst (pc' := 29) (v := 2) X0 hx hby dm3_28 rfl rfl ?_
 refine w_icmpYes (pc' := 51) X0 hx hby dm3_29 (XT.ii_ne_t (by decide)) (by decide) ?_
 refine w_iloadN (pc' := 52) X0 hx hby dm3_51 rfl rfl ?_
 refine w_iconst (pc' := 53) (v := 3) X0 hx hby dm3_52 rfl rfl ?_
 refine w_icmpYes (pc' := 79) X0 hx hby dm3_53 (XT.ii_ne_t (by decide)) (by decide) ?_
 refine w_iloadN (pc' := 80) X0 hx hby dm3_79 rfl rfl ?_
 refine w_iconst (pc' := 81) (v := 4) X0 hx hby dm3_80 rfl rfl ?_
 refine w_icmpNo (pc' := 84) X0 hx hby dm3_81 (XT.ii_ne_f (by decide)) rfl ?_
 obtain ⟨T597, h597, X597, e597, E597, A597, D597, -, st597⟩ := newO X0 hx hZ hown (wi hw 61 rfl) (wi hw 10 rfl) (wi hw 9 rfl) e0 (g := (mkF m 84 #[.val (.int 4), .val (.int xa), .val (.int xb), .val (.int xc), .val (.int xd), .val (.int xe)] [])) rfl (hb hby dm3_84) (by decide) (by decide)
 obtain ⟨a597, g597⟩ : ∃ z, z = h0.size := ⟨_, rfl⟩
 rw [← g597] at A597 D597 st597
 have ge598 : n0 ≤ a597 := Nat.le_trans Z0 (Nat.le_of_eq g597.symm)
 have Old600 := Old0.ext E597
 have Z601 := Nat.le_trans Z0 E597.1
 have Kp602 : Keep h0 h597 [] := K00.ext E597
 have f603 : Fld Z h597 a597 "java/lang/String" "coder" "B" (.int (0 : Int32)) := D597 (Or.inr (wi hw 13 rfl)) (ty := .byte) (by decide)
 have f604 : Fld Z h597 a597 "java/lang/String" "value" "[B" .null := D597 (Or.inr (wi hw 12 rfl)) (ty := (.array .byte)) (by decide)
 refine Rch.st (fun _ k => st597 _ k) ?_
 show Rch p e below T597 (mkF m 87 #[.val (.int 4), .val (.int xa), .val (.int xb), .val (.int xc), .val (.int xd), .val (.int xe)] [(.ref a597)]) _
 refine w_dup (pc' := 88) X597 hx hby dm3_87 rfl rfl ?_
 refine w_iconst (pc' := 89) (v := 4) X597 hx hby dm3_88 rfl rfl ?_
 obtain ⟨T605, h605, kc605, X605, e605, E605, A605, st605⟩ := newP X597 hx hZ (wi hw 62 rfl) e597 (g := (mkF m 89 #[.val (.int 4), .val (.int xa), .val (.int xb), .val (.int xc), .val (.int xd), .val (.int xe)] [(.int 4), (.ref a597), (.ref a597)])) rfl (hb hby dm3_89) rfl (by decide : ¬ ((4 : Int32) < (0 : Int32))) (cap := 4) (by decide : (4 : Int32).toNatClampNeg ≤ 4) (by decide) (by decide) (by decide)
 obtain ⟨a605, g605⟩ : ∃ z, z = h597.size := ⟨_, rfl⟩
 rw [← g605] at A605 st605
 have ne606 : a597 ≠ a605 := by rw [g605]; exact Nat.ne_of_lt A597.lt
 have ge607 : n0 ≤ a605 := Nat.le_trans Z601 (Nat.le_of_eq g605.symm)
 have f609 := A597.ext E605
 have f610 := f603.ext E605
 have f611 := f604.ext E605
 have Old612 := Old600.ext E605
 have Z613 := Nat.le_trans Z601 E605.1
 have Kp614 : Keep h0 h605 [] := Kp602.ext E605
 have f615 : Arv Z h605 a605 kc605 .char (4 : Int32) [(.int (0 : Int32)), (.int (0 : Int32)), (.int (0 : Int32)), (.int (0 : Int32))] (.int (0 : Int32)) := (Arv.new A605 (by decide : ¬ ((4 : Int32) < (0 : Int32)))).pad (pad_rep [] (.int (0 : Int32)) 4)
 refine Rch.st (fun _ k => st605 _ k) ?_
 show Rch p e below T605 (mkF m 91 #[.val (.int 4), .val (.int xa), .val (.int xb), .val (.int xc), .val (.int xd), .val (.int xe)] [(.ref a605), (.ref a597), (.ref a597)]) _
 refine w_dup (pc' := 92) X605 hx hby dm3_91 rfl rfl ?_
 refine w_iconst (pc' := 93) (v := 0) X605 hx hby dm3_92 rfl rfl ?_
 refine w_iloadN (pc' := 94) X605 hx hby dm3_93 rfl rfl ?_
 obtain ⟨T616, h616, X616, e616, W616, V616, st616⟩ := own_stC X605 hx hZ e605 f615 (j := (0 : Int32)) ⟨by decide, by decide⟩ 0 (by decide) (by decide : 0 < 4) (g := (mkF m 94 #[.val (.int 4), .val (.int xa), .val (.int xb), .val (.int xc), .val (.int xd), .val (.int xe)] [(.int xa), (.int 0), (.ref a605), (.ref a605), (.ref a597), (.ref a597)])) rfl rfl (hb hby dm3_94)
 have N617 := Fr.snoc X616 N0 ge607
 have f618 := f609.wr W616
 have f619 := f610.other W616 (Or.inl ne606)
 have f620 := f611.other W616 (Or.inl ne606)
 have Old621 := Old612.wr W616 ge607
 have Z622 := Nat.le_trans Z613 (Keep.of_wr W616).1
 have Kp623 : Keep h0 h616 [] := Kp614.wr W616 (Or.inr (Nat.le_trans Kp602.1 (Nat.le_of_eq g605.symm)))
 have f624 : Arv Z h616 a605 kc605 .char (4 : Int32) [(.int (nar .char xa)), (.int (0 : Int32)), (.int (0 : Int32)), (.int (0 : Int32))] (.int (0 : Int32)) := V616
 refine Rch.st (fun _ k => st616 _ k) ?_
 show Rch p e below T616 (mkF m 95 #[.val (.int 4), .val (.int xa), .val (.int xb), .val (.int xc), .val (.int xd), .val (.int xe)] [(.ref a605), (.ref a597), (.ref a597)]) _
 refine w_dup (pc' := 96) X616 hx hby dm3_95 rfl rfl ?_
 refine w_iconst (pc' := 97) (v := 1) X616 hx hby dm3_96 rfl rfl ?_
 refine w_iloadN (pc' := 98) X616 hx hby dm3_97 rfl rfl ?_
 obtain ⟨T625, h625, X625, e625, W625, V625, st625⟩ := own_stC X616 hx hZ e616 f624 (j := (1 : Int32)) ⟨by decide, by decide⟩ 1 (by decide) (by decide : 1 < 4) (g := (mkF m 98 #[.val (.int 4), .val (.int xa), .val (.int xb), .val (.int xc), .val (.int xd), .val (.int xe)] [(.int xb), (.int 1), (.ref a605), (.ref a605), (.ref a597), (.ref a597)])) rfl rfl (hb hby dm3_98)
 have N626 := Fr.snoc X625 N617 ge607
 have f627 := f618.wr W625
 have f628 := f619.other W625 (Or.inl ne606)
 have f629 := f620.other W625 (Or.inl ne606)
 have Old630 := Old621.wr W625 ge607
 have Z631 := Nat.le_trans Z622 (Keep.of_wr W625).1
 have Kp632 : Keep h0 h625 [] := Kp623.wr W625 (Or.inr (Nat.le_trans Kp602.1 (Nat.le_of_eq g605.symm)))
 have f633 : Arv Z h625 a605 kc605 .char (4 : Int32) [(.int (nar .char xa)), (.int (nar .char xb)), (.int (0 : Int32)), (.int (0 : Int32))] (.int (0 : Int32)) := V625
 refine Rch.st (fun _ k => st625 _ k) ?_
 show Rch p e below T625 (mkF m 99 #[.val (.int 4), .val (.int xa), .val (.int xb), .val (.int xc), .val (.int xd), .val (.int xe)] [(.ref a605), (.ref a597), (.ref a597)]) _
 refine w_dup (pc' := 100) X625 hx hby dm3_99 rfl rfl ?_
 refine w_iconst (pc' := 101) (v := 2) X625 hx hby dm3_100 rfl rfl ?_
 refine w_iloadN (pc' := 102) X625 hx hby dm3_101 rfl rfl ?_
 obtain ⟨T634, h634, X634, e634, W634, V634, st634⟩ := own_stC X625 hx hZ e625 f633 (j := (2 : Int32)) ⟨by decide, by decide⟩ 2 (by decide) (by decide : 2 < 4) (g := (mkF m 102 #[.val (.int 4), .val (.int xa), .val (.int xb), .val (.int xc), .val (.int xd), .val (.int xe)] [(.int xc), (.int 2), (.ref a605), (.ref a605), (.ref a597), (.ref a597)])) rfl rfl (hb hby dm3_102)
 have N635 := Fr.snoc X634 N626 ge607
 have f636 := f627.wr W634
 have f637 := f628.other W634 (Or.inl ne606)
 have f638 := f629.other W634 (Or.inl ne606)
 have Old639 := Old630.wr W634 ge607
 have Z640 := Nat.le_trans Z631 (Keep.of_wr W634).1
 have Kp641 : Keep h0 h634 [] := Kp632.wr W634 (Or.inr (Nat.le_trans Kp602.1 (Nat.le_of_eq g605.symm)))
 have f642 : Arv Z h634 a605 kc605 .char (4 : Int32) [(.int (nar .char xa)), (.int (nar .char xb)), (.int (nar .char xc)), (.int (0 : Int32))] (.int (0 : Int32)) := V634
 refine Rch.st (fun _ k => st634 _ k) ?_
 show Rch p e below T634 (mkF m 103 #[.val (.int 4), .val (.int xa), .val (.int xb), .val (.int xc), .val (.int xd), .val (.int xe)] [(.ref a605), (.ref a597), (.ref a597)]) _
 refine w_dup (pc' := 104) X634 hx hby dm3_103 rfl rfl ?_
 refine w_iconst (pc' := 105) (v := 3) X634 hx hby dm3_104 rfl rfl ?_
 refine w_iload (pc' := 107) X634 hx hby dm3_105 rfl rfl ?_
 obtain ⟨T643, h643, X643, e643, W643, V643, st643⟩ := own_stC X634 hx hZ e634 f642 (j := (3 : Int32)) ⟨by decide, by decide⟩ 3 (by decide) (by decide : 3 < 4) (g := (mkF m 107 #[.val (.int 4), .val (.int xa), .val (.int xb), .val (.int xc), .val (.int xd), .val (.int xe)] [(.int xd), (.int 3), (.ref a605), (.ref a605), (.ref a597), (.ref a597)])) rfl rfl (hb hby dm3_107)
 have N644 := Fr.snoc X643 N635 ge607
 have f645 := f636.wr W643
 have f646 := f637.other W643 (Or.inl ne606)
 have f647 := f638.other W643 (Or.inl ne606)
 have Old648 := Old639.wr W643 ge607
 have Z649 := Nat.le_trans Z640 (Keep.of_wr W643).1
 have Kp650 : Keep h0 h643 [] := Kp641.wr W643 (Or.inr (Nat.le_trans Kp602.1 (Nat.le_of_eq g605.symm)))
 have f651 : Arv Z h643 a605 kc605 .char (4 : Int32) [(.int (nar .char xa)), (.int (nar .char xb)), (.int (nar .char xc)), (.int (nar .char xd))] (.int (0 : Int32)) := V643
 refine Rch.st (fun _ k => st643 _ k) ?_
 show Rch p e below T643 (mkF m 108 #[.val (.int 4), .val (.int xa), .val (.int xb), .val (.int xc), .val (.int xd), .val (.int xe)] [(.ref a605), (.ref a597), (.ref a597)]) _
 have f652 : Arv Z h643 a605 kc605 .char (4 : Int32) [(.int xa), (.int xb), (.int xc), (.int xd)] (.int (0 : Int32)) := by have z := f651; rw [ch_xa.nr, ch_xb.nr, ch_xc.nr, ch_xd.nr] at z; exact z
 obtain ⟨_, _, ⟨T653, L653, k653, n653⟩, -, X653, ⟨Lc653, hQ653, l653, y653, z653⟩, st653⟩ := X643.specialBack hx (y := (⟨"java/lang/String", "<init>", "([C)V"⟩ : MethodName)) rfl hown (mvT hZ (wi hw 63 rfl)) (mvT hZ (wi hw 64 rfl)) (mvT hZ (wi hw 65 rfl)) (by decide) (backOf (W := 1) (rm_init1_4 l Z a0 hw [] G1 a597 a605 kc605 xa xb xc xd h643 n0 Z649 (O2) (P5) f645 f646 f647 f652 (ge598) (ne606) (ch_xa.le) (ch_xb.le) (ch_xc.le) (ch_xd.le) Old648) hZ (wi hw 65 rfl) (wi hw 9 rfl) (by decide) (by decide)) (g := (mkF m 108 #[.val (.int 4), .val (.int xa), .val (.int xb), .val (.int xc), .val (.int xd), .val (.int xe)] [(.ref a605), (.ref a597), (.ref a597)])) rfl (by rw [hml]; rfl) (Steps.refl _) (a := a597) (argsL := [(.ref a605)]) (rest := [(.ref a597)]) (lenOf pd___C_V rfl) rfl (by show 2 * 0 + _ ≤ _; exact Nat.le_of_eq rfl) (hb hby dm3_108) (fun _ _ => ⟨rfl, e643, (by decide : 2 + 1 ≤ _), (by decide : 8 + 4 ≤ _)⟩)
 dsimp only [Pt.U, Pt.locs, Pt.cells, Pt.slots] at X653 l653 y653 z653 st653 hQ653
 subst l653 y653 z653
 obtain ⟨t_653, kt_653, rfl, NQ653, K653, pq653_0, fq653_0, fq653_1, fq653_2⟩ := hQ653
 have N654 := Fr.app N644 NQ653
 have f658 := f645.keep K653
 have Kp661 : Keep h0 T653.heap [] := Kp650.trans K653 (allS (Or.inr (Nat.le_trans K00.1 (Nat.le_of_eq g597.symm))) all0)
 refine Rch.st (fun _ k => st653.trans k) ?_
 show Rch p e below T653 (mkF m 111 #[.val (.int 4), .val (.int xa), .val (.int xb), .val (.int xc), .val (.int xd), .val (.int xe)] [(.ref a597)]) _
 exact Rch.retV X653 hx Bd.returns rfl (Or.inr (Or.inr (Or.inr (Or.inr ⟨rfl, rfl, rfl⟩)))) (hb hby dm3_111) (by rw [(rfl : T653.heap = T653.heap)]; exact ⟨a597, t_653, kt_653, rfl, N654, Kp661, (Nat.le_trans K00.1 (Nat.le_of_eq g597.symm)), (Nat.le_trans Kp650.1 pq653_0), f658, fq653_0, fq653_1, fq653_2⟩) (by decide) (by decide)

theorem ef_rm_mk_5 (m : MethodId) (G1 : Int32) (xa : Int32) (xb : Int32) (xc : Int32) (xd : Int32) (xe : Int32)  : entryFrame m #[(.int (5 : Int32)), (.int xa), (.int xb), (.int xc), (.int xd), (.int xe)] 6 = mkF m 0 #[.val (.int (5 : Int32)), .val (.int xa), .val (.int xb), .val (.int xc), .val (.int xd), .val (.int xe)] [] := by  first | (simp [entryFrame, mkF, argsToLocals, Value.category, maxLocals]; done) | rfl
def Q_rm_mk_5 (Z : State) (G1 : Int32) (xa : Int32) (xb : Int32) (xc : Int32) (xd : Int32) (xe : Int32) (h0 : Heap) (n0 : Nat) (v : Option Value) (h : Heap) (L : List Loc) : Prop := ∃ (ra : Addr) (t : Addr) (kt : ClassId), (v = some (.ref ra)) ∧ (Fr n0 L) ∧ (Keep h0 h []) ∧ (h0.size ≤ ra) ∧ (h0.size ≤ t) ∧ (Exa Z h ra "java/lang/String") ∧ (Fld Z h ra "java/lang/String" "coder" "B" (.int (0 : Int32))) ∧ (Fld Z h ra "java/lang/String" "value" "[B" (.ref t)) ∧ (Arv Z h t kt .byte (5 : Int32) [(.int (own_by xa)), (.int (own_by xb)), (.int (own_by xc)), (.int (own_by xd)), (.int (own_by xe))] (.int (0 : Int32)))
set_option maxRecDepth 65536 in
set_option maxHeartbeats 40000000 in
theorem rm_mk_5 (l : Launch) (Z : State) (a0 : Array Value) (hw : ∀ d ∈ tables_1, d.before a0 Z = true) (ws : List Jvm.Cond) (G1 : Int32) (xa : Int32) (xb : Int32) (xc : Int32) (xd : Int32) (xe : Int32) (h0 : Heap) (n0 : Nat) (Z0 : n0 ≤ h0.size) (O2 : Sta Z Z.heap "java/lang/String" "COMPACT_STRINGS" "Z" (.int G1)) (P5 : ¬ G1 = 0) (ch_xa : Ch8 xa) (ch_xb : Ch8 xb) (ch_xc : Ch8 xc) (ch_xd : Ch8 xd) (ch_xe : Ch8 xe) (Old0 : OldL Z n0 h0) :
    MetFree l (⟨"com/example/fascicle/fascicle/EntriesDirectoryOfPinLaw", "mk", "(ICCCCC)Ljava/lang/String;"⟩ : MethodName) (head1 (Jvm.Cond.code (⟨"com/example/fascicle/fascicle/EntriesDirectoryOfPinLaw", "mk", "(ICCCCC)Ljava/lang/String;"⟩ : MethodName) method_3_code 6 (some (.object "java/lang/String")) :: ws) ({ frames := 4, cells := 3, slots := 14, locals := 66 } : Room)) (fun a U => a = #[(.int (5 : Int32)), (.int xa), (.int xb), (.int xc), (.int xd), (.int xe)] ∧ Z.Warmed39 U.vm ∧ U.heap = h0) (fun _ _ _ _ _ => True) (fun _ U o U' => ∃ v L, o = .returned v ∧ Q_rm_mk_5 Z G1 xa xb xc xd xe h0 n0 v U'.heap L ∧ FrameEnd U o U' L ({ frames := 4, cells := 3, slots := 14, locals := 66 } : Room).cells ({ frames := 4, cells := 3, slots := 14, locals := 66 } : Room).slots) := by
 refine MetFree.of_bodySF (plainFor_of_name pn_com_example_fascicle_fascicle_EntriesDirectoryOfPinLaw) hisR ?_
 intro p e s m args below meth c s₁ Bd hml0 hP hK
 obtain ⟨rfl, hZ, hh⟩ := hP
 have hx := Bd.exec
 have hby := Bd.bytes
 have hml : c.maxLocals = 6 := hml0
 have hown : s.vm.findClass "com/example/fascicle/fascicle/EntriesDirectoryOfPinLaw" = some m.cls := findClass_of_methodNamed Bd.named
 have hnm := (name_of_methodNamed Bd.named Bd.method).1
 have X0 : Stand p l e ({ frames := 4, cells := 3, slots := 14, locals := 66 } : Room) s m #[(.int (5 : Int32)), (.int xa), (.int xb), (.int xc), (.int xd), (.int xe)] below meth c s₁ [] 0 0 := Stand.of_body Bd
 have e0 : s₁.heap = h0 := by rw [← hh, Bd.state]; rfl
 have N0 := Fr.nil n0
 have K00 : Keep h0 h0 [] := Keep.refl _ _
 show Rch p e below s₁ (entryFrame m #[(.int (5 : Int32)), (.int xa), (.int xb), (.int xc), (.int xd), (.int xe)] 6) (FinP s (Q_rm_mk_5 Z G1 xa xb xc xd xe h0 n0) 3 14)
 refine Rch.cast (ef_rm_mk_5 m G1 xa xb xc xd xe) ?_
 show Rch p e below s₁ (mkF m 0 #[.val (.int 5), .val (.int xa), .val (.int xb), .val (.int xc), .val (.int xd), .val (.int xe)] []) _
 refine w_iloadN (pc' := 1) X0 hx hby dm3_0 rfl rfl ?_
 refine w_ifYes (pc' := 7) X0 hx hby dm3_1 (XT.i0_ne_t (by decide)) (by decide) ?_
 refine w_iloadN (pc' := 8) X0 hx hby dm3_7 rfl rfl ?_
 refine w_iconst (pc' := 9) (v := 1) X0 hx hby dm3_8 rfl rfl ?_
 refine w_icmpYes (pc' := 27) X0 hx hby dm3_9 (XT.ii_ne_t (by decide)) (by decide) ?_
 refine w_iloadN (pc' := 28) X0 hx hby dm3_27 rfl rfl ?_
 refine w_iconst (pc' := 29) (v := 2) X0 hx hby dm3_28 rfl rfl ?_
 refine w_icmpYes (pc' := 51) X0 hx hby dm3_29 (XT.ii_ne_t (by decide)) (by decide) ?_
 refine w_iloadN (pc' := 52) X0 hx hby dm3_51 rfl rfl ?_
 refine w_iconst (pc' := 53) (v := 3) X0 hx hby dm3_52 rfl rfl ?_
 refine w_icmpYes (pc' := 79) X0 hx hby dm3_53 (XT.ii_ne_t (by decide)) (by decide) ?_
 refine w_iloadN (pc' := 80) X0 hx hby dm3_79 rfl rfl ?_
 refine w_iconst (pc' := 81) (v := 4) X0 hx hby dm3_80 rfl rfl ?_
 refine w_icmpYes (pc' := 112) X0 hx hby dm3_81 (XT.ii_ne_t (by decide)) (by decide) ?_
 obtain ⟨T663, h663, X663, e663, E663, A663, D663, -, st663⟩ := newO X0 hx hZ hown (wi hw 61 rfl) (wi hw 10 rfl) (wi hw 9 rfl) e0 (g := (mkF m 112 #[.val (.int 5), .val (.int xa), .val (.int xb), .val (.int xc), .val (.int xd), .val (.int xe)] [])) rfl (hb hby dm3_112) (by decide) (by decide)
 obtain ⟨a663, g663⟩ : ∃ z, z = h0.size := ⟨_, rfl⟩
 rw [← g663] at A663 D663 st663
 have ge664 : n0 ≤ a663 := Nat.le_trans Z0 (Nat.le_of_eq g663.symm)
 have Old666 := Old0.ext E663
 have Z667 := Nat.le_trans Z0 E663.1
 have Kp668 : Keep h0 h663 [] := K00.ext E663
 have f669 : Fld Z h663 a663 "java/lang/String" "coder" "B" (.int (0 : Int32)) := D663 (Or.inr (wi hw 13 rfl)) (ty := .byte) (by decide)
 have f670 : Fld Z h663 a663 "java/lang/String" "value" "[B" .null := D663 (Or.inr (wi hw 12 rfl)) (ty := (.array .byte)) (by decide)
 refine Rch.st (fun _ k => st663 _ k) ?_
 show Rch p e below T663 (mkF m 115 #[.val (.int 5), .val (.int xa), .val (.int xb), .val (.int xc), .val (.int xd), .val (.int xe)] [(.ref a663)]) _
 refine w_dup (pc' := 116) X663 hx hby dm3_115 rfl rfl ?_
 refine w_iconst (pc' := 117) (v := 5) X663 hx hby dm3_116 rfl rfl ?_
 obtain ⟨T671, h671, kc671, X671, e671, E671, A671, st671⟩ := newP X663 hx hZ (wi hw 62 rfl) e663 (g := (mkF m 117 #[.val (.int 5), .val (.int xa), .val (.int xb), .val (.int xc), .val (.int xd), .val (.int xe)] [(.int 5), (.ref a663), (.ref a663)])) rfl (hb hby dm3_117) rfl (by decide : ¬ ((5 : Int32) < (0 : Int32))) (cap := 5) (by decide : (5 : Int32).toNatClampNeg ≤ 5) (by decide) (by decide) (by decide)
 obtain ⟨a671, g671⟩ : ∃ z, z = h663.size := ⟨_, rfl⟩
 rw [← g671] at A671 st671
 have ne672 : a663 ≠ a671 := by rw [g671]; exact Nat.ne_of_lt A663.lt
 have ge673 : n0 ≤ a671 := Nat.le_trans Z667 (Nat.le_of_eq g671.symm)
 have f675 := A663.ext E671
 have f676 := f669.ext E671
 have f677 := f670.ext E671
 have Old678 := Old666.ext E671
 have Z679 := Nat.le_trans Z667 E671.1
 have Kp680 : Keep h0 h671 [] := Kp668.ext E671
 have f681 : Arv Z h671 a671 kc671 .char (5 : Int32) [(.int (0 : Int32)), (.int (0 : Int32)), (.int (0 : Int32)), (.int (0 : Int32)), (.int (0 : Int32))] (.int (0 : Int32)) := (Arv.new A671 (by decide : ¬ ((5 : Int32) < (0 : Int32)))).pad (pad_rep [] (.int (0 : Int32)) 5)
 refine Rch.st (fun _ k => st671 _ k) ?_
 show Rch p e below T671 (mkF m 119 #[.val (.int 5), .val (.int xa), .val (.int xb), .val (.int xc), .val (.int xd), .val (.int xe)] [(.ref a671), (.ref a663), (.ref a663)]) _
 refine w_dup (pc' := 120) X671 hx hby dm3_119 rfl rfl ?_
 refine w_iconst (pc' := 121) (v := 0) X671 hx hby dm3_120 rfl rfl ?_
 refine w_iloadN (pc' := 122) X671 hx hby dm3_121 rfl rfl ?_
 obtain ⟨T682, h682, X682, e682, W682, V682, st682⟩ := own_stC X671 hx hZ e671 f681 (j := (0 : Int32)) ⟨by decide, by decide⟩ 0 (by decide) (by decide : 0 < 5) (g := (mkF m 122 #[.val (.int 5), .val (.int xa), .val (.int xb), .val (.int xc), .val (.int xd), .val (.int xe)] [(.int xa), (.int 0), (.ref a671), (.ref a671), (.ref a663), (.ref a663)])) rfl rfl (hb hby dm3_122)
 have N683 := Fr.snoc X682 N0 ge673
 have f684 := f675.wr W682
 have f685 := f676.other W682 (Or.inl ne672)
 have f686 := f677.other W682 (Or.inl ne672)
 have Old687 := Old678.wr W682 ge673
 have Z688 := Nat.le_trans Z679 (Keep.of_wr W682).1
 have Kp689 : Keep h0 h682 [] := Kp680.wr W682 (Or.inr (Nat.le_trans Kp668.1 (Nat.le_of_eq g671.symm)))
 have f690 : Arv Z h682 a671 kc671 .char (5 : Int32) [(.int (nar .char xa)), (.int (0 : Int32)), (.int (0 : Int32)), (.int (0 : Int32)), (.int (0 : Int32))] (.int (0 : Int32)) := V682
 refine Rch.st (fun _ k => st682 _ k) ?_
 show Rch p e below T682 (mkF m 123 #[.val (.int 5), .val (.int xa), .val (.int xb), .val (.int xc), .val (.int xd), .val (.int xe)] [(.ref a671), (.ref a663), (.ref a663)]) _
 refine w_dup (pc' := 124) X682 hx hby dm3_123 rfl rfl ?_
 refine w_iconst (pc' := 125) (v := 1) X682 hx hby dm3_124 rfl rfl ?_
 refine w_iloadN (pc' := 126) X682 hx hby dm3_125 rfl rfl ?_
 obtain ⟨T691, h691, X691, e691, W691, V691, st691⟩ := own_stC X682 hx hZ e682 f690 (j := (1 : Int32)) ⟨by decide, by decide⟩ 1 (by decide) (by decide : 1 < 5) (g := (mkF m 126 #[.val (.int 5), .val (.int xa), .val (.int xb), .val (.int xc), .val (.int xd), .val (.int xe)] [(.int xb), (.int 1), (.ref a671), (.ref a671), (.ref a663), (.ref a663)])) rfl rfl (hb hby dm3_126)
 have N692 := Fr.snoc X691 N683 ge673
 have f693 := f684.wr W691
 have f694 := f685.other W691 (Or.inl ne672)
 have f695 := f686.other W691 (Or.inl ne672)
 have Old696 := Old687.wr W691 ge673
 have Z697 := Nat.le_trans Z688 (Keep.of_wr W691).1
 have Kp698 : Keep h0 h691 [] := Kp689.wr W691 (Or.inr (Nat.le_trans Kp668.1 (Nat.le_of_eq g671.symm)))
 have f699 : Arv Z h691 a671 kc671 .char (5 : Int32) [(.int (nar .char xa)), (.int (nar .char xb)), (.int (0 : Int32)), (.int (0 : Int32)), (.int (0 : Int32))] (.int (0 : Int32)) := V691
 refine Rch.st (fun _ k => st691 _ k) ?_
 show Rch p e below T691 (mkF m 127 #[.val (.int 5), .val (.int xa), .val (.int xb), .val (.int xc), .val (.int xd), .val (.int xe)] [(.ref a671), (.ref a663), (.ref a663)]) _
 refine w_dup (pc' := 128) X691 hx hby dm3_127 rfl rfl ?_
 refine w_iconst (pc' := 129) (v := 2) X691 hx hby dm3_128 rfl rfl ?_
 refine w_iloadN (pc' := 130) X691 hx hby dm3_129 rfl rfl ?_
 obtain ⟨T700, h700, X700, e700, W700, V700, st700⟩ := own_stC X691 hx hZ e691 f699 (j := (2 : Int32)) ⟨by decide, by decide⟩ 2 (by decide) (by decide : 2 < 5) (g := (mkF m 130 #[.val (.int 5), .val (.int xa), .val (.int xb), .val (.int xc), .val (.int xd), .val (.int xe)] [(.int xc), (.int 2), (.ref a671), (.ref a671), (.ref a663), (.ref a663)])) rfl rfl (hb hby dm3_130)
 have N701 := Fr.snoc X700 N692 ge673
 have f702 := f693.wr W700
 have f703 := f694.other W700 (Or.inl ne672)
 have f704 := f695.other W700 (Or.inl ne672)
 have Old705 := Old696.wr W700 ge673
 have Z706 := Nat.le_trans Z697 (Keep.of_wr W700).1
 have Kp707 : Keep h0 h700 [] := Kp698.wr W700 (Or.inr (Nat.le_trans Kp668.1 (Nat.le_of_eq g671.symm)))
 have f708 : Arv Z h700 a671 kc671 .char (5 : Int32) [(.int (nar .char xa)), (.int (nar .char xb)), (.int (nar .char xc)), (.int (0 : Int32)), (.int (0 : Int32))] (.int (0 : Int32)) := V700
 refine Rch.st (fun _ k => st700 _ k) ?_
 show Rch p e below T700 (mkF m 131 #[.val (.int 5), .val (.int xa), .val (.int xb), .val (.int xc), .val (.int xd), .val (.int xe)] [(.ref a671), (.ref a663), (.ref a663)]) _
 refine w_dup (pc' := 132) X700 hx hby dm3_131 rfl rfl ?_
 refine w_iconst (pc' := 133) (v := 3) X700 hx hby dm3_132 rfl rfl ?_
 refine w_iload (pc' := 135) X700 hx hby dm3_133 rfl rfl ?_
 obtain ⟨T709, h709, X709, e709, W709, V709, st709⟩ := own_stC X700 hx hZ e700 f708 (j := (3 : Int32)) ⟨by decide, by decide⟩ 3 (by decide) (by decide : 3 < 5) (g := (mkF m 135 #[.val (.int 5), .val (.int xa), .val (.int xb), .val (.int xc), .val (.int xd), .val (.int xe)] [(.int xd), (.int 3), (.ref a671), (.ref a671), (.ref a663), (.ref a663)])) rfl rfl (hb hby dm3_135)
 have N710 := Fr.snoc X709 N701 ge673
 have f711 := f702.wr W709
 have f712 := f703.other W709 (Or.inl ne672)
 have f713 := f704.other W709 (Or.inl ne672)
 have Old714 := Old705.wr W709 ge673
 have Z715 := Nat.le_trans Z706 (Keep.of_wr W709).1
 have Kp716 : Keep h0 h709 [] := Kp707.wr W709 (Or.inr (Nat.le_trans Kp668.1 (Nat.le_of_eq g671.symm)))
 have f717 : Arv Z h709 a671 kc671 .char (5 : Int32) [(.int (nar .char xa)), (.int (nar .char xb)), (.int (nar .char xc)), (.int (nar .char xd)), (.int (0 : Int32))] (.int (0 : Int32)) := V709
 refine Rch.st (fun _ k => st709 _ k) ?_
 show Rch p e below T709 (mkF m 136 #[.val (.int 5), .val (.int xa), .val (.int xb), .val (.int xc), .val (.int xd), .val (.int xe)] [(.ref a671), (.ref a663), (.ref a663)]) _
 refine w_dup (pc' := 137) X709 hx hby dm3_136 rfl rfl ?_
 refine w_iconst (pc' := 138) (v := 4) X709 hx hby dm3_137 rfl rfl ?_
 refine w_iload (pc' := 140) X709 hx hby dm3_138 rfl rfl ?_
 obtain ⟨T718, h718, X718, e718, W718, V718, st718⟩ := own_stC X709 hx hZ e709 f717 (j := (4 : Int32)) ⟨by decide, by decide⟩ 4 (by decide) (by decide : 4 < 5) (g := (mkF m 140 #[.val (.int 5), .val (.int xa), .val (.int xb), .val (.int xc), .val (.int xd), .val (.int xe)] [(.int xe), (.int 4), (.ref a671), (.ref a671), (.ref a663), (.ref a663)])) rfl rfl (hb hby dm3_140)
 have N719 := Fr.snoc X718 N710 ge673
 have f720 := f711.wr W718
 have f721 := f712.other W718 (Or.inl ne672)
 have f722 := f713.other W718 (Or.inl ne672)
 have Old723 := Old714.wr W718 ge673
 have Z724 := Nat.le_trans Z715 (Keep.of_wr W718).1
 have Kp725 : Keep h0 h718 [] := Kp716.wr W718 (Or.inr (Nat.le_trans Kp668.1 (Nat.le_of_eq g671.symm)))
 have f726 : Arv Z h718 a671 kc671 .char (5 : Int32) [(.int (nar .char xa)), (.int (nar .char xb)), (.int (nar .char xc)), (.int (nar .char xd)), (.int (nar .char xe))] (.int (0 : Int32)) := V718
 refine Rch.st (fun _ k => st718 _ k) ?_
 show Rch p e below T718 (mkF m 141 #[.val (.int 5), .val (.int xa), .val (.int xb), .val (.int xc), .val (.int xd), .val (.int xe)] [(.ref a671), (.ref a663), (.ref a663)]) _
 have f727 : Arv Z h718 a671 kc671 .char (5 : Int32) [(.int xa), (.int xb), (.int xc), (.int xd), (.int xe)] (.int (0 : Int32)) := by have z := f726; rw [ch_xa.nr, ch_xb.nr, ch_xc.nr, ch_xd.nr, ch_xe.nr] at z; exact z
 obtain ⟨_, _, ⟨T728, L728, k728, n728⟩, -, X728, ⟨Lc728, hQ728, l728, y728, z728⟩, st728⟩ := X718.specialBack hx (y := (⟨"java/lang/String", "<init>", "([C)V"⟩ : MethodName)) rfl hown (mvT hZ (wi hw 63 rfl)) (mvT hZ (wi hw 64 rfl)) (mvT hZ (wi hw 65 rfl)) (by decide) (backOf (W := 1) (rm_init1_5 l Z a0 hw [] G1 a663 a671 kc671 xa xb xc xd xe h718 n0 Z724 (O2) (P5) f720 f721 f722 f727 (ge664) (ne672) (ch_xa.le) (ch_xb.le) (ch_xc.le) (ch_xd.le) (ch_xe.le) Old723) hZ (wi hw 65 rfl) (wi hw 9 rfl) (by decide) (by decide)) (g := (mkF m 141 #[.val (.int 5), .val (.int xa), .val (.int xb), .val (.int xc), .val (.int xd), .val (.int xe)] [(.ref a671), (.ref a663), (.ref a663)])) rfl (by rw [hml]; rfl) (Steps.refl _) (a := a663) (argsL := [(.ref a671)]) (rest := [(.ref a663)]) (lenOf pd___C_V rfl) rfl (by show 2 * 0 + _ ≤ _; exact Nat.le_of_eq rfl) (hb hby dm3_141) (fun _ _ => ⟨rfl, e718, (by decide : 2 + 1 ≤ _), (by decide : 9 + 5 ≤ _)⟩)
 dsimp only [Pt.U, Pt.locs, Pt.cells, Pt.slots] at X728 l728 y728 z728 st728 hQ728
 subst l728 y728 z728
 obtain ⟨t_728, kt_728, rfl, NQ728, K728, pq728_0, fq728_0, fq728_1, fq728_2⟩ := hQ728
 have N729 := Fr.app N719 NQ728
 have f733 := f720.keep K728
 have Kp736 : Keep h0 T728.heap [] := Kp725.trans K728 (allS (Or.inr (Nat.le_trans K00.1 (Nat.le_of_eq g663.symm))) all0)
 refine Rch.st (fun _ k => st728.trans k) ?_
 show Rch p e below T728 (mkF m 144 #[.val (.int 5), .val (.int xa), .val (.int xb), .val (.int xc), .val (.int xd), .val (.int xe)] [(.ref a663)]) _
 exact Rch.retV X728 hx Bd.returns rfl (Or.inr (Or.inr (Or.inr (Or.inr ⟨rfl, rfl, rfl⟩)))) (hb hby dm3_144) (by rw [(rfl : T728.heap = T728.heap)]; exact ⟨a663, t_728, kt_728, rfl, N729, Kp736, (Nat.le_trans K00.1 (Nat.le_of_eq g663.symm)), (Nat.le_trans Kp725.1 pq728_0), f733, fq728_0, fq728_1, fq728_2⟩) (by decide) (by decide)

theorem ef_rm_mk_0 (m : MethodId) (xa : Int32) (xb : Int32) (xc : Int32) (xd : Int32) (xe : Int32)  : entryFrame m #[(.int (0 : Int32)), (.int xa), (.int xb), (.int xc), (.int xd), (.int xe)] 6 = mkF m 0 #[.val (.int (0 : Int32)), .val (.int xa), .val (.int xb), .val (.int xc), .val (.int xd), .val (.int xe)] [] := by  first | (simp [entryFrame, mkF, argsToLocals, Value.category, maxLocals]; done) | rfl
def Q_rm_mk_0 (Z : State) (xa : Int32) (xb : Int32) (xc : Int32) (xd : Int32) (xe : Int32) (h0 : Heap) (n0 : Nat) (v : Option Value) (h : Heap) (vm : Vm) (L : List Loc) : Prop := ∃ (ra : Addr) (t : Addr) (kt : ClassId), (v = some (.ref ra)) ∧ (Fr n0 L) ∧ (Keep h0 h []) ∧ (Exa Z h ra "java/lang/String") ∧ (Fld Z h ra "java/lang/String" "coder" "B" (.int (0 : Int32))) ∧ (Fld Z h ra "java/lang/String" "value" "[B" (.ref t)) ∧ (Arv Z h t kt .byte (0 : Int32) [] (.int (0 : Int32))) ∧ (CHv Z consts_1 vm h)
set_option maxRecDepth 65536 in
set_option maxHeartbeats 40000000 in
theorem rm_mk_0 (l : Launch) (Z : State) (a0 : Array Value) (hw : ∀ d ∈ tables_1, d.before a0 Z = true) (ws : List Jvm.Cond) (xa : Int32) (xb : Int32) (xc : Int32) (xd : Int32) (xe : Int32) (h0 : Heap) (n0 : Nat) (Z0 : n0 ≤ h0.size) (Old0 : OldL Z n0 h0) :
    MetFree l (⟨"com/example/fascicle/fascicle/EntriesDirectoryOfPinLaw", "mk", "(ICCCCC)Ljava/lang/String;"⟩ : MethodName) (head1 (Jvm.Cond.code (⟨"com/example/fascicle/fascicle/EntriesDirectoryOfPinLaw", "mk", "(ICCCCC)Ljava/lang/String;"⟩ : MethodName) method_3_code 6 (some (.object "java/lang/String")) :: ws) ({ frames := 0, cells := 2, slots := 4, locals := 0 } : Room)) (fun a U => a = #[(.int (0 : Int32)), (.int xa), (.int xb), (.int xc), (.int xd), (.int xe)] ∧ Z.Warmed39 U.vm ∧ U.heap = h0 ∧ CHv Z consts_1 U.vm h0) (fun _ _ _ _ _ => True) (fun _ U o U' => ∃ v L, o = .returned v ∧ Q_rm_mk_0 Z xa xb xc xd xe h0 n0 v U'.heap U'.vm L ∧ ReturnedEndW U o U' L ({ frames := 0, cells := 2, slots := 4, locals := 0 } : Room).cells ({ frames := 0, cells := 2, slots := 4, locals := 0 } : Room).slots) := by
 refine MetFree.of_bodySF (plainFor_of_name pn_com_example_fascicle_fascicle_EntriesDirectoryOfPinLaw) hisR ?_
 intro p e s m args below meth c s₁ Bd hml0 hP hK
 obtain ⟨rfl, hZ, hh, hI⟩ := hP
 have hx := Bd.exec
 have hby := Bd.bytes
 have hml : c.maxLocals = 6 := hml0
 have hown : s.vm.findClass "com/example/fascicle/fascicle/EntriesDirectoryOfPinLaw" = some m.cls := findClass_of_methodNamed Bd.named
 have hnm := (name_of_methodNamed Bd.named Bd.method).1
 have X0 : Stand p l e ({ frames := 0, cells := 2, slots := 4, locals := 0 } : Room) (s.setVm s.vm) m #[(.int (0 : Int32)), (.int xa), (.int xb), (.int xc), (.int xd), (.int xe)] below meth c s₁ [] 0 0 := Stand.of_body Bd
 have e0 : s₁.heap = h0 := by rw [← hh, Bd.state]; rfl
 have N0 := Fr.nil n0
 have K00 : Keep h0 h0 [] := Keep.refl _ _
 have hS0 : s.Since s.vm s.heap.size := (State.WarmedH.refl s).since _
 have hk0 : s.heap.size ≤ h0.size := by rw [hh]; exact Nat.le_refl _
 have hkeep : ∀ (b : Addr) (cl : Cell), Z.heap[b]? = some cl → s.heap[b]? = some cl := by rw [hh]; exact Old0.2.2
 show Rch p e below s₁ (entryFrame m #[(.int (0 : Int32)), (.int xa), (.int xb), (.int xc), (.int xd), (.int xe)] 6) (FinW s (Q_rm_mk_0 Z xa xb xc xd xe h0 n0) 2 4)
 refine Rch.cast (ef_rm_mk_0 m xa xb xc xd xe) ?_
 have hEL := own_EW hw
 have Z0f := Nat.le_refl h0.size
 have N0f := Fr.nil h0.size
 have OldF := Old0.up Z0
 show Rch p e below s₁ (mkF m 0 #[.val (.int 0), .val (.int xa), .val (.int xb), .val (.int xc), .val (.int xd), .val (.int xe)] []) _
 refine w_iloadN (pc' := 1) X0 hx hby dm3_0 rfl rfl ?_
 refine w_ifNo (pc' := 4) X0 hx hby dm3_1 (XT.i0_ne_f (by decide)) rfl ?_
 obtain ⟨a738, T738, h738, k738, b738, kc738, X738, e738, E738, hS738, hk738, hZ738, hown738, Ex738, Fc738, Fv738, Va738, lt738, lu738, C738, Li738, sf738, st738⟩ := ldcCH (s := s) (vm0 := s.vm) X0 hx hZ hown (wi hw 8 rfl) (fun d hd => hw d ((by decide +kernel : ∀ d ∈ Bundle.stringAtoms, d ∈ tables_1) d hd)) e0 hS0 hk0 hEL (List.mem_of_getElem? (i := 1) rfl) hI (vs := []) (z := (0 : Int32)) ⟨by decide, by decide⟩ (by decide) (by decide) (g := (mkF m 4 #[.val (.int 0), .val (.int xa), .val (.int xb), .val (.int xc), .val (.int xd), .val (.int xe)] [])) rfl (hb hby dm3_4) (n := 0) (by decide) (by decide) (by decide) (by decide)
 have CH740 := CHv.ext E738 hI
 have Kp743 : Keep h0 h738 [] := K00.ext E738
 refine Rch.st (fun _ k => st738 _ k) ?_
 show Rch p e below T738 (mkF m 6 #[.val (.int 0), .val (.int xa), .val (.int xb), .val (.int xc), .val (.int xd), .val (.int xe)] [(.ref a738)]) _
 exact Rch.retVW X738 hx hS738 (by rw [e738]; exact hk738) Bd.returns rfl (Or.inr (Or.inr (Or.inr (Or.inr ⟨rfl, rfl, rfl⟩)))) (hb hby dm3_6) (by rw [e738]; exact ⟨a738, b738, kc738, rfl, (own_Fr Z0 N0f), Kp743, Ex738, Fc738, Fv738, Va738, own_chv (s := s) (vm0 := T738.vm) hZ738 hEL X738.warmed C738.1⟩) (by decide) (by decide)

theorem djdk43m4_0 : decode jdk_43_method_4_code 0 = .ok (.iload_n 0, 1) := by decide +kernel
theorem djdk43m4_1 : decode jdk_43_method_4_code 1 = .ok (.ifCond .lt 14, 3) := by decide +kernel
theorem djdk43m4_4 : decode jdk_43_method_4_code 4 = .ok (.iload_n 0, 1) := by decide +kernel
theorem djdk43m4_5 : decode jdk_43_method_4_code 5 = .ok (.sipush 255, 3) := by decide +kernel
theorem djdk43m4_8 : decode jdk_43_method_4_code 8 = .ok (.if_icmp .gt 7, 3) := by decide +kernel
theorem djdk43m4_11 : decode jdk_43_method_4_code 11 = .ok (.iconst 1, 1) := by decide +kernel
theorem djdk43m4_12 : decode jdk_43_method_4_code 12 = .ok (.goto 4, 3) := by decide +kernel
theorem djdk43m4_16 : decode jdk_43_method_4_code 16 = .ok (.ireturn, 1) := by decide +kernel
theorem ef_rm_ce (m : MethodId)   : entryFrame m #[(.int (47 : Int32))] 1 = mkF m 0 #[.val (.int (47 : Int32))] [] := by  first | (simp [entryFrame, mkF, argsToLocals, Value.category, maxLocals]; done) | rfl
def Q_rm_ce (Z : State)  (h0 : Heap) (n0 : Nat) (v : Option Value) (h : Heap) (L : List Loc) : Prop := (v = some (.int (1 : Int32))) ∧ (Fr n0 L) ∧ (h = h0)
set_option maxRecDepth 65536 in
set_option maxHeartbeats 40000000 in
theorem rm_ce (l : Launch) (Z : State) (a0 : Array Value) (hw : ∀ d ∈ tables_1, d.before a0 Z = true) (ws : List Jvm.Cond)  (h0 : Heap) (n0 : Nat) (Z0 : n0 ≤ h0.size)  :
    MetFree l (⟨"java/lang/StringLatin1", "canEncode", "(I)Z"⟩ : MethodName) (head1 (Jvm.Cond.code (⟨"java/lang/StringLatin1", "canEncode", "(I)Z"⟩ : MethodName) jdk_43_method_4_code 1 (some .boolean) :: ws) ({ frames := 0, cells := 0, slots := 0, locals := 0 } : Room)) (fun a U => a = #[(.int (47 : Int32))] ∧ Z.Warmed39 U.vm ∧ U.heap = h0) (fun _ _ _ _ _ => True) (fun _ U o U' => ∃ v L, o = .returned v ∧ Q_rm_ce Z  h0 n0 v U'.heap L ∧ FrameEnd U o U' L ({ frames := 0, cells := 0, slots := 0, locals := 0 } : Room).cells ({ frames := 0, cells := 0, slots := 0, locals := 0 } : Room).slots) := by
 refine MetFree.of_bodySF (plainFor_of_name pn_java_lang_StringLatin1) hisR ?_
 intro p e s m args below meth c s₁ Bd hml0 hP hK
 obtain ⟨rfl, hZ, hh⟩ := hP
 have hx := Bd.exec
 have hby := Bd.bytes
 have hml : c.maxLocals = 1 := hml0
 have hown : s.vm.findClass "java/lang/StringLatin1" = some m.cls := findClass_of_methodNamed Bd.named
 have hnm := (name_of_methodNamed Bd.named Bd.method).1
 have X0 : Stand p l e ({ frames := 0, cells := 0, slots := 0, locals := 0 } : Room) s m #[(.int (47 : Int32))] below meth c s₁ [] 0 0 := Stand.of_body Bd
 have e0 : s₁.heap = h0 := by rw [← hh, Bd.state]; rfl
 have N0 := Fr.nil n0
 have K00 : Keep h0 h0 [] := Keep.refl _ _
 show Rch p e below s₁ (entryFrame m #[(.int (47 : Int32))] 1) (FinP s (Q_rm_ce Z  h0 n0) 0 0)
 refine Rch.cast (ef_rm_ce m ) ?_
 show Rch p e below s₁ (mkF m 0 #[.val (.int 47)] []) _
 refine w_iloadN (pc' := 1) X0 hx hby djdk43m4_0 rfl rfl ?_
 refine w_ifNo (pc' := 4) X0 hx hby djdk43m4_1 (XT.i0_lt_f (by decide)) rfl ?_
 refine w_iloadN (pc' := 5) X0 hx hby djdk43m4_4 rfl rfl ?_
 refine w_sipush (pc' := 8) (v := 255) X0 hx hby djdk43m4_5 rfl rfl ?_
 refine w_icmpNo (pc' := 11) X0 hx hby djdk43m4_8 (XT.ii_gt_f (by decide)) rfl ?_
 refine w_iconst (pc' := 12) (v := 1) X0 hx hby djdk43m4_11 rfl rfl ?_
 refine w_goto (pc' := 16) X0 hx hby djdk43m4_12 (by decide) ?_
 exact Rch.retV X0 hx Bd.returns rfl (Or.inl ⟨rfl, by simp, _, rfl⟩) (hb hby djdk43m4_16) (by rw [e0]; exact ⟨rfl, N0, rfl⟩) (by decide) (by decide)

theorem djdk43m27_0 : decode jdk_43_method_27_code 0 = .ok (.iload_n 1, 1) := by decide +kernel
theorem djdk43m27_1 : decode jdk_43_method_27_code 1 = .ok (.invokestatic 88, 3) := by decide +kernel
theorem djdk43m27_4 : decode jdk_43_method_27_code 4 = .ok (.ifCond .ne 5, 3) := by decide +kernel
theorem djdk43m27_9 : decode jdk_43_method_27_code 9 = .ok (.iload_n 2, 1) := by decide +kernel
theorem djdk43m27_10 : decode jdk_43_method_27_code 10 = .ok (.aload_n 0, 1) := by decide +kernel
theorem djdk43m27_11 : decode jdk_43_method_27_code 11 = .ok (.arraylength, 1) := by decide +kernel
theorem djdk43m27_12 : decode jdk_43_method_27_code 12 = .ok (.iconst 1, 1) := by decide +kernel
theorem djdk43m27_13 : decode jdk_43_method_27_code 13 = .ok (.isub, 1) := by decide +kernel
theorem djdk43m27_14 : decode jdk_43_method_27_code 14 = .ok (.invokestatic 38, 3) := by decide +kernel
theorem djdk43m27_17 : decode jdk_43_method_27_code 17 = .ok (.istore_n 3, 1) := by decide +kernel
theorem djdk43m27_18 : decode jdk_43_method_27_code 18 = .ok (.iload_n 3, 1) := by decide +kernel
theorem djdk43m27_19 : decode jdk_43_method_27_code 19 = .ok (.ifCond .lt 19, 3) := by decide +kernel
theorem djdk43m27_22 : decode jdk_43_method_27_code 22 = .ok (.aload_n 0, 1) := by decide +kernel
theorem djdk43m27_23 : decode jdk_43_method_27_code 23 = .ok (.iload_n 3, 1) := by decide +kernel
theorem djdk43m27_24 : decode jdk_43_method_27_code 24 = .ok (.baload, 1) := by decide +kernel
theorem djdk43m27_25 : decode jdk_43_method_27_code 25 = .ok (.iload_n 1, 1) := by decide +kernel
theorem djdk43m27_26 : decode jdk_43_method_27_code 26 = .ok (.i2b, 1) := by decide +kernel
theorem djdk43m27_27 : decode jdk_43_method_27_code 27 = .ok (.if_icmp .ne 5, 3) := by decide +kernel
theorem djdk43m27_30 : decode jdk_43_method_27_code 30 = .ok (.iload_n 3, 1) := by decide +kernel
theorem djdk43m27_31 : decode jdk_43_method_27_code 31 = .ok (.ireturn, 1) := by decide +kernel
theorem djdk43m27_32 : decode jdk_43_method_27_code 32 = .ok (.iinc 3 (-1), 3) := by decide +kernel
theorem djdk43m27_35 : decode jdk_43_method_27_code 35 = .ok (.goto (-17), 3) := by decide +kernel
theorem djdk43m27_38 : decode jdk_43_method_27_code 38 = .ok (.iconst (-1), 1) := by decide +kernel
theorem djdk43m27_39 : decode jdk_43_method_27_code 39 = .ok (.ireturn, 1) := by decide +kernel
theorem ef_rm_lL (m : MethodId) (bb : Addr) (kb : ClassId) (nn : Int32) (bs : List Int32)  : entryFrame m #[(.ref bb), (.int (47 : Int32)), (.int (nn - (1 : Int32)))] 4 = mkF m 0 #[.val (.ref bb), .val (.int (47 : Int32)), .val (.int (nn - (1 : Int32))), .unset] [] := by  first | (simp [entryFrame, mkF, argsToLocals, Value.category, maxLocals]; done) | rfl
def Q_rm_lL (Z : State) (bb : Addr) (kb : ClassId) (nn : Int32) (bs : List Int32) (h0 : Heap) (n0 : Nat) (v : Option Value) (h : Heap) (L : List Loc) : Prop := (v = some (.int (own_lst bs nn.toNatClampNeg))) ∧ (Fr n0 L) ∧ (h = h0)
theorem pd__I_Z : parseMethodDescriptor "(I)Z" = some ⟨[.int], (some .boolean)⟩ := by decide +kernel
set_option maxRecDepth 65536 in
set_option maxHeartbeats 40000000 in
theorem rm_lL (l : Launch) (Z : State) (a0 : Array Value) (hw : ∀ d ∈ tables_1, d.before a0 Z = true) (ws : List Jvm.Cond) (bb : Addr) (kb : ClassId) (nn : Int32) (bs : List Int32) (h0 : Heap) (n0 : Nat) (Z0 : n0 ≤ h0.size) (f0 : Arv Z h0 bb kb .byte nn (bs.map Value.int) (.int (0 : Int32))) (hnn : ¬ nn < 0) :
    MetFree l (⟨"java/lang/StringLatin1", "lastIndexOf", "([BII)I"⟩ : MethodName) (head1 (Jvm.Cond.code (⟨"java/lang/StringLatin1", "lastIndexOf", "([BII)I"⟩ : MethodName) jdk_43_method_27_code 4 (some .int) :: ws) ({ frames := 1, cells := 0, slots := 0, locals := 13 } : Room)) (fun a U => a = #[(.ref bb), (.int (47 : Int32)), (.int (nn - (1 : Int32)))] ∧ Z.Warmed39 U.vm ∧ U.heap = h0) (fun _ _ _ _ _ => True) (fun _ U o U' => ∃ v L, o = .returned v ∧ Q_rm_lL Z bb kb nn bs h0 n0 v U'.heap L ∧ FrameEnd U o U' L ({ frames := 1, cells := 0, slots := 0, locals := 13 } : Room).cells ({ frames := 1, cells := 0, slots := 0, locals := 13 } : Room).slots) := by
 refine MetFree.of_bodySF (plainFor_of_name pn_java_lang_StringLatin1) hisR ?_
 intro p e s m args below meth c s₁ Bd hml0 hP hK
 obtain ⟨rfl, hZ, hh⟩ := hP
 have hx := Bd.exec
 have hby := Bd.bytes
 have hml : c.maxLocals = 4 := hml0
 have hown : s.vm.findClass "java/lang/StringLatin1" = some m.cls := findClass_of_methodNamed Bd.named
 have hnm := (name_of_methodNamed Bd.named Bd.method).1
 have X0 : Stand p l e ({ frames := 1, cells := 0, slots := 0, locals := 13 } : Room) s m #[(.ref bb), (.int (47 : Int32)), (.int (nn - (1 : Int32)))] below meth c s₁ [] 0 0 := Stand.of_body Bd
 have e0 : s₁.heap = h0 := by rw [← hh, Bd.state]; rfl
 have N0 := Fr.nil n0
 have K00 : Keep h0 h0 [] := Keep.refl _ _
 show Rch p e below s₁ (entryFrame m #[(.ref bb), (.int (47 : Int32)), (.int (nn - (1 : Int32)))] 4) (FinP s (Q_rm_lL Z bb kb nn bs h0 n0) 0 0)
 refine Rch.cast (ef_rm_lL m bb kb nn bs) ?_
 show Rch p e below s₁ (mkF m 0 #[.val (.ref bb), .val (.int 47), .val (.int (nn - (1 : Int32))), .unset] []) _
 refine w_iloadN (pc' := 1) X0 hx hby djdk43m27_0 rfl rfl ?_
 obtain ⟨_, _, ⟨T744, L744, k744, n744⟩, -, X744, ⟨Lc744, hQ744, l744, y744, z744⟩, st744⟩ := Jvm.LawKit.callS X0 hx (y := (⟨"java/lang/StringLatin1", "canEncode", "(I)Z"⟩ : MethodName)) hown (mvT hZ (wi hw 52 rfl)) (mvT hZ (wi hw 53 rfl)) (mvT hZ (wi hw 50 rfl)) (mvT hZ (wi hw 54 rfl)) (by decide) (backOf (W := 0) (rm_ce l Z a0 hw []  h0 n0 Z0 ) hZ (wi hw 54 rfl) (wi hw 50 rfl) (by decide) (by decide)) (g := (mkF m 1 #[.val (.ref bb), .val (.int 47), .val (.int (nn - (1 : Int32))), .unset] [(.int 47)])) rfl (by rw [hml]; rfl) (argsL := [(.int 47)]) (rest := []) (lenOf pd__I_Z rfl) rfl (by show 2 * 0 + _ ≤ _; exact Nat.le_of_eq rfl) (hb hby djdk43m27_1) (fun _ _ => ⟨rfl, e0, (by decide : 0 + 0 ≤ _), (by decide : 0 + 0 ≤ _)⟩)
 dsimp only [Pt.U, Pt.locs, Pt.cells, Pt.slots] at X744 l744 y744 z744 st744 hQ744
 subst l744 y744 z744
 obtain ⟨rfl, NQ744, K744⟩ := hQ744
 have N745 := Fr.app N0 NQ744
 refine Rch.st (fun _ k => st744 _ k) ?_
 show Rch p e below T744 (mkF m 4 #[.val (.ref bb), .val (.int 47), .val (.int (nn - (1 : Int32))), .unset] [(.int 1)]) _
 refine w_ifYes (pc' := 9) X744 hx hby djdk43m27_4 (XT.i0_ne_t (by decide)) (by decide) ?_
 refine w_iloadN (pc' := 10) X744 hx hby djdk43m27_9 rfl rfl ?_
 refine w_aloadN (pc' := 11) X744 hx hby djdk43m27_10 rfl rfl rfl ?_
 refine Rch.st (fun _ k => own_alen X744 hx hZ K744 f0 rfl rfl (hb hby djdk43m27_11) k) ?_
 show Rch p e below T744 (mkF m 12 #[.val (.ref bb), .val (.int 47), .val (.int (nn - (1 : Int32))), .unset] [(.int nn), (.int (nn - (1 : Int32)))]) _
 refine w_iconst (pc' := 13) (v := 1) X744 hx hby djdk43m27_12 rfl rfl ?_
 refine w_isub (pc' := 14) X744 hx hby djdk43m27_13 rfl ?_
 obtain ⟨_, _, ⟨T746, L746, k746, n746⟩, -, X746, ⟨Lc746, hQ746, l746, y746, z746⟩, st746⟩ := Jvm.LawKit.callS X744 hx (y := (⟨"java/lang/Math", "min", "(II)I"⟩ : MethodName)) hown (mvT hZ (wi hw 55 rfl)) (mvT hZ (wi hw 56 rfl)) (mvT hZ (wi hw 57 rfl)) (mvT hZ (wi hw 58 rfl)) (by decide) (backOf (W := 0) (rm_min32 l Z a0 hw [] (nn - (1 : Int32)) (nn - (1 : Int32)) h0 n0 Z0 ) hZ (wi hw 58 rfl) (wi hw 57 rfl) (by decide) (by decide)) (g := (mkF m 14 #[.val (.ref bb), .val (.int 47), .val (.int (nn - (1 : Int32))), .unset] [(.int (nn - (1 : Int32))), (.int (nn - (1 : Int32)))])) rfl (by rw [hml]; rfl) (argsL := [(.int (nn - (1 : Int32))), (.int (nn - (1 : Int32)))]) (rest := []) (lenOf pd__II_I rfl) rfl (by show 2 * 0 + _ ≤ _; exact Nat.le_of_eq rfl) (hb hby djdk43m27_14) (fun _ _ => ⟨rfl, K744, (by decide : 0 + 0 ≤ _), (by decide : 0 + 0 ≤ _)⟩)
 dsimp only [Pt.U, Pt.locs, Pt.cells, Pt.slots] at X746 l746 y746 z746 st746 hQ746
 subst l746 y746 z746
 obtain ⟨rfl, NQ746, K746⟩ := hQ746
 have N747 := Fr.app N745 NQ746
 refine Rch.st (fun _ k => st746 _ k) ?_
 show Rch p e below T746 (mkF m 17 #[.val (.ref bb), .val (.int 47), .val (.int (nn - (1 : Int32))), .unset] [(.int (own_min32 (nn - (1 : Int32)) (nn - (1 : Int32))))]) _
 have r748 : (own_min32 (nn - (1 : Int32)) (nn - (1 : Int32))) = (nn - (1 : Int32)) := own_minself _
 rw [r748]
 show Rch p e below T746 (mkF m 17 #[.val (.ref bb), .val (.int 47), .val (.int (nn - (1 : Int32))), .unset] [(.int (nn - (1 : Int32)))]) _
 refine w_istoreN (pc' := 18) (l' := #[.val (.ref bb), .val (.int 47), .val (.int (nn - (1 : Int32))), .val (.int (nn - (1 : Int32)))]) X746 hx hby djdk43m27_17 rfl rfl ?_
 have J : ∀ (q : Nat) (ii : Int32), ii.toInt = (q : Int) - 1 → q ≤ nn.toNatClampNeg → own_lst bs nn.toNatClampNeg = own_lst bs q → Rch p e below T746 (mkF m 18 #[.val (.ref bb), .val (.int 47), .val (.int (nn - (1 : Int32))), .val (.int ii)] []) (FinP s (Q_rm_lL Z bb kb nn bs h0 n0) 0 0) := by
  intro q
  induction q with
  | zero =>
   intro ii h1 h2 h3
   show Rch p e below T746 (mkF m 18 #[.val (.ref bb), .val (.int 47), .val (.int (nn - (1 : Int32))), .val (.int ii)] []) _
   refine w_iloadN (pc' := 19) X746 hx hby djdk43m27_18 rfl rfl ?_
   refine w_ifYes (pc' := 38) X746 hx hby djdk43m27_19 (XT.i0_lt_t (by rw [Int32.lt_iff_toInt_lt, h1]; decide)) (by decide) ?_
   refine w_iconst (pc' := 39) (v := (-1)) X746 hx hby djdk43m27_38 rfl rfl ?_
   exact Rch.retV X746 hx Bd.returns rfl (Or.inl ⟨rfl, by simp, _, rfl⟩) (hb hby djdk43m27_39) (by rw [K746]; exact ⟨by rw [h3]; rfl, N747, rfl⟩) (by decide) (by decide)
  | succ q ih =>
   intro ii h1 h2 h3
   have hq : ii.toInt = (q : Int) := by rw [h1]; push_cast; omega
   have hlt : ii < nn := by rw [Int32.lt_iff_toInt_lt, hq, own_nn hnn]; omega
   have hge : ¬ ii < 0 := by rw [Int32.lt_iff_toInt_lt, hq, show (0 : Int32).toInt = 0 from by decide]; omega
   show Rch p e below T746 (mkF m 18 #[.val (.ref bb), .val (.int 47), .val (.int (nn - (1 : Int32))), .val (.int ii)] []) _
   refine w_iloadN (pc' := 19) X746 hx hby djdk43m27_18 rfl rfl ?_
   refine w_ifNo (pc' := 22) X746 hx hby djdk43m27_19 (XT.i0_lt_f (hge)) rfl ?_
   refine w_aloadN (pc' := 23) X746 hx hby djdk43m27_22 rfl rfl rfl ?_
   refine w_iloadN (pc' := 24) X746 hx hby djdk43m27_23 rfl rfl ?_
   refine Rch.st (fun _ k => own_ldB X746 hx hZ K746 f0 (j := ii) (⟨hge, hlt⟩) (by rw [own_nat hq, own_mapD]) rfl rfl (hb hby djdk43m27_24) k) ?_
   show Rch p e below T746 (mkF m 25 #[.val (.ref bb), .val (.int 47), .val (.int (nn - (1 : Int32))), .val (.int ii)] [(.int (bs.getD q 0))]) _
   refine w_iloadN (pc' := 26) X746 hx hby djdk43m27_25 rfl rfl ?_
   refine w_i2b (pc' := 27) X746 hx hby djdk43m27_26 rfl ?_
   have r749 : ((47 : Int32)).toInt8.toInt32 = (47 : Int32) := by decide
   rw [r749]
   show Rch p e below T746 (mkF m 27 #[.val (.ref bb), .val (.int 47), .val (.int (nn - (1 : Int32))), .val (.int ii)] [(.int 47), (.int (bs.getD q 0))]) _
   by_cases hv : bs.getD q 0 = 47
   ·skip
    refine w_icmpNo (pc' := 30) X746 hx hby djdk43m27_27 (XT.ii_ne_f (hv)) rfl ?_
    refine w_iloadN (pc' := 31) X746 hx hby djdk43m27_30 rfl rfl ?_
    exact Rch.retV X746 hx Bd.returns rfl (Or.inl ⟨rfl, by simp, _, rfl⟩) (hb hby djdk43m27_31) (by rw [K746]; exact ⟨by rw [h3, own_lst, if_pos hv, own_ofNat hq], N747, rfl⟩) (by decide) (by decide)
   ·skip
    refine w_icmpYes (pc' := 32) X746 hx hby djdk43m27_27 (XT.ii_ne_t (hv)) (by decide) ?_
    refine w_iinc (pc' := 35) (w := (ii + (-1 : Int32))) (l' := #[.val (.ref bb), .val (.int (47 : Int32)), .val (.int (nn - (1 : Int32))), .val (.int (ii + (-1 : Int32)))]) X746 hx hby djdk43m27_32 rfl rfl rfl rfl ?_
    refine w_goto (pc' := 18) X746 hx hby djdk43m27_35 (by decide) ?_
    exact ih _ (own_dec hq) (by omega) (by rw [h3, own_lst, if_neg hv])
 exact J nn.toNatClampNeg _ (own_m1 hnn) (Nat.le_refl _) rfl

theorem djdk42m83_0 : decode jdk_42_method_83_code 0 = .ok (.aload_n 0, 1) := by decide +kernel
theorem djdk42m83_1 : decode jdk_42_method_83_code 1 = .ok (.invokevirtual 492, 3) := by decide +kernel
theorem djdk42m83_4 : decode jdk_42_method_83_code 4 = .ok (.ifCond .eq 15, 3) := by decide +kernel
theorem djdk42m83_7 : decode jdk_42_method_83_code 7 = .ok (.aload_n 0, 1) := by decide +kernel
theorem djdk42m83_8 : decode jdk_42_method_83_code 8 = .ok (.getfield 9, 3) := by decide +kernel
theorem djdk42m83_11 : decode jdk_42_method_83_code 11 = .ok (.iload_n 1, 1) := by decide +kernel
theorem djdk42m83_12 : decode jdk_42_method_83_code 12 = .ok (.iload_n 2, 1) := by decide +kernel
theorem djdk42m83_13 : decode jdk_42_method_83_code 13 = .ok (.invokestatic 644, 3) := by decide +kernel
theorem djdk42m83_16 : decode jdk_42_method_83_code 16 = .ok (.goto 12, 3) := by decide +kernel
theorem djdk42m83_28 : decode jdk_42_method_83_code 28 = .ok (.ireturn, 1) := by decide +kernel
theorem ef_rm_l2 (m : MethodId) (G1 : Int32) (aa : Addr) (bb : Addr) (kb : ClassId) (nn : Int32) (bs : List Int32)  : entryFrame m #[(.ref aa), (.int (47 : Int32)), (.int (nn - (1 : Int32)))] 3 = mkF m 0 #[.val (.ref aa), .val (.int (47 : Int32)), .val (.int (nn - (1 : Int32)))] [] := by  first | (simp [entryFrame, mkF, argsToLocals, Value.category, maxLocals]; done) | rfl
def Q_rm_l2 (Z : State) (G1 : Int32) (aa : Addr) (bb : Addr) (kb : ClassId) (nn : Int32) (bs : List Int32) (h0 : Heap) (n0 : Nat) (v : Option Value) (h : Heap) (L : List Loc) : Prop := (v = some (.int (own_lst bs nn.toNatClampNeg))) ∧ (Fr n0 L) ∧ (h = h0)
theorem pd___BII_I : parseMethodDescriptor "([BII)I" = some ⟨[(.array .byte), .int, .int], (some .int)⟩ := by decide +kernel
set_option maxRecDepth 65536 in
set_option maxHeartbeats 40000000 in
theorem rm_l2 (l : Launch) (Z : State) (a0 : Array Value) (hw : ∀ d ∈ tables_1, d.before a0 Z = true) (ws : List Jvm.Cond) (G1 : Int32) (aa : Addr) (bb : Addr) (kb : ClassId) (nn : Int32) (bs : List Int32) (h0 : Heap) (n0 : Nat) (Z0 : n0 ≤ h0.size) (O2 : Sta Z Z.heap "java/lang/String" "COMPACT_STRINGS" "Z" (.int G1)) (P5 : ¬ G1 = 0) (f2 : Exa Z h0 aa "java/lang/String") (f3 : Fld Z h0 aa "java/lang/String" "coder" "B" (.int (0 : Int32))) (f4 : Fld Z h0 aa "java/lang/String" "value" "[B" (.ref bb)) (f5 : Arv Z h0 bb kb .byte nn (bs.map Value.int) (.int (0 : Int32))) (hnn : ¬ nn < 0) (Old0 : OldL Z n0 h0) :
    MetFree l (⟨"java/lang/String", "lastIndexOf", "(II)I"⟩ : MethodName) (head1 (Jvm.Cond.code (⟨"java/lang/String", "lastIndexOf", "(II)I"⟩ : MethodName) jdk_42_method_83_code 3 (some .int) :: ws) ({ frames := 2, cells := 0, slots := 0, locals := 28 } : Room)) (fun a U => a = #[(.ref aa), (.int (47 : Int32)), (.int (nn - (1 : Int32)))] ∧ Z.Warmed39 U.vm ∧ U.heap = h0) (fun _ _ _ _ _ => True) (fun _ U o U' => ∃ v L, o = .returned v ∧ Q_rm_l2 Z G1 aa bb kb nn bs h0 n0 v U'.heap L ∧ FrameEnd U o U' L ({ frames := 2, cells := 0, slots := 0, locals := 28 } : Room).cells ({ frames := 2, cells := 0, slots := 0, locals := 28 } : Room).slots) := by
 refine MetFree.of_bodySF (plainFor_of_name pn_java_lang_String) hisR ?_
 intro p e s m args below meth c s₁ Bd hml0 hP hK
 obtain ⟨rfl, hZ, hh⟩ := hP
 have hx := Bd.exec
 have hby := Bd.bytes
 have hml : c.maxLocals = 3 := hml0
 have hown : s.vm.findClass "java/lang/String" = some m.cls := findClass_of_methodNamed Bd.named
 have hnm := (name_of_methodNamed Bd.named Bd.method).1
 have X0 : Stand p l e ({ frames := 2, cells := 0, slots := 0, locals := 28 } : Room) s m #[(.ref aa), (.int (47 : Int32)), (.int (nn - (1 : Int32)))] below meth c s₁ [] 0 0 := Stand.of_body Bd
 have e0 : s₁.heap = h0 := by rw [← hh, Bd.state]; rfl
 have N0 := Fr.nil n0
 have K00 : Keep h0 h0 [] := Keep.refl _ _
 show Rch p e below s₁ (entryFrame m #[(.ref aa), (.int (47 : Int32)), (.int (nn - (1 : Int32)))] 3) (FinP s (Q_rm_l2 Z G1 aa bb kb nn bs h0 n0) 0 0)
 refine Rch.cast (ef_rm_l2 m G1 aa bb kb nn bs) ?_
 show Rch p e below s₁ (mkF m 0 #[.val (.ref aa), .val (.int 47), .val (.int (nn - (1 : Int32)))] []) _
 refine w_aloadN (pc' := 1) X0 hx hby djdk42m83_0 rfl rfl rfl ?_
 obtain ⟨cq750, kq750, q750a, q750b, q750c⟩ := isOf hZ e0 f2
 obtain ⟨_, _, ⟨T750, L750, k750, n750⟩, -, X750, ⟨Lc750, hQ750, l750, y750, z750⟩, st750⟩ := X0.virtualBack hx (y := (⟨"java/lang/String", "isLatin1", "()Z"⟩ : MethodName)) (z := (⟨"java/lang/String", "isLatin1", "()Z"⟩ : MethodName)) hown (mvT hZ (wi hw 43 rfl)) (mvT hZ (wi hw 44 rfl)) (notFace_of_selects (args := #[]) (mvT hZ (wi hw 46 rfl))) (mvT hZ (wi hw 46 rfl)) (mvT hZ (wi hw 45 rfl)) (by decide) (backOf (W := 0) (rm_isl l Z a0 hw [] G1 aa h0 n0 Z0 (O2) (P5) f3 Old0) hZ (wi hw 47 rfl) (wi hw 9 rfl) (by decide) (by decide)) q750a q750c (g := (mkF m 1 #[.val (.ref aa), .val (.int 47), .val (.int (nn - (1 : Int32)))] [(.ref aa)])) rfl (by rw [hml]; rfl) (Steps.refl _) (argsL := []) (rest := []) (lenOf pd___Z rfl) rfl (by show 2 * 0 + _ ≤ _; exact Nat.le_of_eq rfl) (hb hby djdk42m83_1) (fun _ _ => ⟨rfl, e0, (by decide : 0 + 0 ≤ _), (by decide : 0 + 0 ≤ _)⟩)
 dsimp only [Pt.U, Pt.locs, Pt.cells, Pt.slots] at X750 l750 y750 z750 st750 hQ750
 subst l750 y750 z750
 obtain ⟨rfl, NQ750, K750⟩ := hQ750
 have N751 := Fr.app N0 NQ750
 refine Rch.st (fun _ k => st750.trans k) ?_
 show Rch p e below T750 (mkF m 4 #[.val (.ref aa), .val (.int 47), .val (.int (nn - (1 : Int32)))] [(.int 1)]) _
 refine w_ifNo (pc' := 7) X750 hx hby djdk42m83_4 (XT.i0_eq_f (by decide)) rfl ?_
 refine w_aloadN (pc' := 8) X750 hx hby djdk42m83_7 rfl rfl rfl ?_
 obtain ⟨T752, X752, e752, st752⟩ := getF X750 hx hZ hown (host := "") (Or.inl (wi hw 30 rfl)) Via.refl K750 f4 (g := (mkF m 8 #[.val (.ref aa), .val (.int 47), .val (.int (nn - (1 : Int32)))] [(.ref aa)])) rfl rfl (hb hby djdk42m83_8)
 refine Rch.st (fun _ k => st752 _ k) ?_
 show Rch p e below T752 (mkF m 11 #[.val (.ref aa), .val (.int 47), .val (.int (nn - (1 : Int32)))] [(.ref bb)]) _
 refine w_iloadN (pc' := 12) X752 hx hby djdk42m83_11 rfl rfl ?_
 refine w_iloadN (pc' := 13) X752 hx hby djdk42m83_12 rfl rfl ?_
 obtain ⟨_, _, ⟨T753, L753, k753, n753⟩, -, X753, ⟨Lc753, hQ753, l753, y753, z753⟩, st753⟩ := Jvm.LawKit.callS X752 hx (y := (⟨"java/lang/StringLatin1", "lastIndexOf", "([BII)I"⟩ : MethodName)) hown (mvT hZ (wi hw 48 rfl)) (mvT hZ (wi hw 49 rfl)) (mvT hZ (wi hw 50 rfl)) (mvT hZ (wi hw 51 rfl)) (by decide) (backOf (W := 0) (rm_lL l Z a0 hw [] bb kb nn bs h0 n0 Z0 f5 (hnn)) hZ (wi hw 51 rfl) (wi hw 50 rfl) (by decide) (by decide)) (g := (mkF m 13 #[.val (.ref aa), .val (.int 47), .val (.int (nn - (1 : Int32)))] [(.int (nn - (1 : Int32))), (.int 47), (.ref bb)])) rfl (by rw [hml]; rfl) (argsL := [(.ref bb), (.int 47), (.int (nn - (1 : Int32)))]) (rest := []) (lenOf pd___BII_I rfl) rfl (by show 2 * 0 + _ ≤ _; exact Nat.le_of_eq rfl) (hb hby djdk42m83_13) (fun _ _ => ⟨rfl, e752, (by decide : 0 + 0 ≤ _), (by decide : 0 + 0 ≤ _)⟩)
 dsimp only [Pt.U, Pt.locs, Pt.cells, Pt.slots] at X753 l753 y753 z753 st753 hQ753
 subst l753 y753 z753
 obtain ⟨rfl, NQ753, K753⟩ := hQ753
 have N754 := Fr.app N751 NQ753
 refine Rch.st (fun _ k => st753 _ k) ?_
 show Rch p e below T753 (mkF m 16 #[.val (.ref aa), .val (.int 47), .val (.int (nn - (1 : Int32)))] [(.int (own_lst bs nn.toNatClampNeg))]) _
 refine w_goto (pc' := 28) X753 hx hby djdk42m83_16 (by decide) ?_
 exact Rch.retV X753 hx Bd.returns rfl (Or.inl ⟨rfl, by simp, _, rfl⟩) (hb hby djdk42m83_28) (by rw [K753]; exact ⟨rfl, N754, rfl⟩) (by decide) (by decide)

theorem djdk42m82_0 : decode jdk_42_method_82_code 0 = .ok (.aload_n 0, 1) := by decide +kernel
theorem djdk42m82_1 : decode jdk_42_method_82_code 1 = .ok (.iload_n 1, 1) := by decide +kernel
theorem djdk42m82_2 : decode jdk_42_method_82_code 2 = .ok (.aload_n 0, 1) := by decide +kernel
theorem djdk42m82_3 : decode jdk_42_method_82_code 3 = .ok (.invokevirtual 505, 3) := by decide +kernel
theorem djdk42m82_6 : decode jdk_42_method_82_code 6 = .ok (.iconst 1, 1) := by decide +kernel
theorem djdk42m82_7 : decode jdk_42_method_82_code 7 = .ok (.isub, 1) := by decide +kernel
theorem djdk42m82_8 : decode jdk_42_method_82_code 8 = .ok (.invokevirtual 641, 3) := by decide +kernel
theorem djdk42m82_11 : decode jdk_42_method_82_code 11 = .ok (.ireturn, 1) := by decide +kernel
theorem ef_rm_l1 (m : MethodId) (G1 : Int32) (aa : Addr) (bb : Addr) (kb : ClassId) (nn : Int32) (bs : List Int32)  : entryFrame m #[(.ref aa), (.int (47 : Int32))] 2 = mkF m 0 #[.val (.ref aa), .val (.int (47 : Int32))] [] := by  first | (simp [entryFrame, mkF, argsToLocals, Value.category, maxLocals]; done) | rfl
def Q_rm_l1 (Z : State) (G1 : Int32) (aa : Addr) (bb : Addr) (kb : ClassId) (nn : Int32) (bs : List Int32) (h0 : Heap) (n0 : Nat) (v : Option Value) (h : Heap) (L : List Loc) : Prop := (v = some (.int (own_lst bs nn.toNatClampNeg))) ∧ (Fr n0 L) ∧ (h = h0)
theorem pd___I : parseMethodDescriptor "()I" = some ⟨[], (some .int)⟩ := by decide +kernel
set_option maxRecDepth 65536 in
set_option maxHeartbeats 40000000 in
theorem rm_l1 (l : Launch) (Z : State) (a0 : Array Value) (hw : ∀ d ∈ tables_1, d.before a0 Z = true) (ws : List Jvm.Cond) (G1 : Int32) (aa : Addr) (bb : Addr) (kb : ClassId) (nn : Int32) (bs : List Int32) (h0 : Heap) (n0 : Nat) (Z0 : n0 ≤ h0.size) (O2 : Sta Z Z.heap "java/lang/String" "COMPACT_STRINGS" "Z" (.int G1)) (P5 : ¬ G1 = 0) (f2 : Exa Z h0 aa "java/lang/String") (f3 : Fld Z h0 aa "java/lang/String" "coder" "B" (.int (0 : Int32))) (f4 : Fld Z h0 aa "java/lang/String" "value" "[B" (.ref bb)) (f5 : Arv Z h0 bb kb .byte nn (bs.map Value.int) (.int (0 : Int32))) (hnn : ¬ nn < 0) (Old0 : OldL Z n0 h0) :
    MetFree l (⟨"java/lang/String", "lastIndexOf", "(I)I"⟩ : MethodName) (head1 (Jvm.Cond.code (⟨"java/lang/String", "lastIndexOf", "(I)I"⟩ : MethodName) jdk_42_method_82_code 2 (some .int) :: ws) ({ frames := 3, cells := 0, slots := 0, locals := 42 } : Room)) (fun a U => a = #[(.ref aa), (.int (47 : Int32))] ∧ Z.Warmed39 U.vm ∧ U.heap = h0) (fun _ _ _ _ _ => True) (fun _ U o U' => ∃ v L, o = .returned v ∧ Q_rm_l1 Z G1 aa bb kb nn bs h0 n0 v U'.heap L ∧ FrameEnd U o U' L ({ frames := 3, cells := 0, slots := 0, locals := 42 } : Room).cells ({ frames := 3, cells := 0, slots := 0, locals := 42 } : Room).slots) := by
 refine MetFree.of_bodySF (plainFor_of_name pn_java_lang_String) hisR ?_
 intro p e s m args below meth c s₁ Bd hml0 hP hK
 obtain ⟨rfl, hZ, hh⟩ := hP
 have hx := Bd.exec
 have hby := Bd.bytes
 have hml : c.maxLocals = 2 := hml0
 have hown : s.vm.findClass "java/lang/String" = some m.cls := findClass_of_methodNamed Bd.named
 have hnm := (name_of_methodNamed Bd.named Bd.method).1
 have X0 : Stand p l e ({ frames := 3, cells := 0, slots := 0, locals := 42 } : Room) s m #[(.ref aa), (.int (47 : Int32))] below meth c s₁ [] 0 0 := Stand.of_body Bd
 have e0 : s₁.heap = h0 := by rw [← hh, Bd.state]; rfl
 have N0 := Fr.nil n0
 have K00 : Keep h0 h0 [] := Keep.refl _ _
 show Rch p e below s₁ (entryFrame m #[(.ref aa), (.int (47 : Int32))] 2) (FinP s (Q_rm_l1 Z G1 aa bb kb nn bs h0 n0) 0 0)
 refine Rch.cast (ef_rm_l1 m G1 aa bb kb nn bs) ?_
 show Rch p e below s₁ (mkF m 0 #[.val (.ref aa), .val (.int 47)] []) _
 refine w_aloadN (pc' := 1) X0 hx hby djdk42m82_0 rfl rfl rfl ?_
 refine w_iloadN (pc' := 2) X0 hx hby djdk42m82_1 rfl rfl ?_
 refine w_aloadN (pc' := 3) X0 hx hby djdk42m82_2 rfl rfl rfl ?_
 obtain ⟨cq755, kq755, q755a, q755b, q755c⟩ := isOf hZ e0 f2
 obtain ⟨_, _, ⟨T755, L755, k755, n755⟩, -, X755, ⟨Lc755, hQ755, l755, y755, z755⟩, st755⟩ := X0.virtualBack hx (y := (⟨"java/lang/String", "length", "()I"⟩ : MethodName)) (z := (⟨"java/lang/String", "length", "()I"⟩ : MethodName)) hown (mvT hZ (wi hw 25 rfl)) (mvT hZ (wi hw 26 rfl)) (notFace_of_selects (args := #[]) (mvT hZ (wi hw 28 rfl))) (mvT hZ (wi hw 28 rfl)) (mvT hZ (wi hw 27 rfl)) (by decide) (backOf (W := 2) (rm_length l Z a0 hw [] G1 aa 0 bb kb nn (bs.map Value.int) (.int 0) h0 n0 Z0 (O2) (P5) f3 (Or.inl rfl) f4 f5 f2 Old0) hZ (wi hw 29 rfl) (wi hw 9 rfl) (by decide) (by decide)) q755a q755c (g := (mkF m 3 #[.val (.ref aa), .val (.int 47)] [(.ref aa), (.int 47), (.ref aa)])) rfl (by rw [hml]; rfl) (Steps.refl _) (argsL := []) (rest := [(.int 47), (.ref aa)]) (lenOf pd___I rfl) rfl (by show 2 * 0 + _ ≤ _; exact Nat.le_of_eq rfl) (hb hby djdk42m82_3) (fun _ _ => ⟨rfl, e0, (by decide : 0 + 0 ≤ _), (by decide : 0 + 0 ≤ _)⟩)
 dsimp only [Pt.U, Pt.locs, Pt.cells, Pt.slots] at X755 l755 y755 z755 st755 hQ755
 subst l755 y755 z755
 obtain ⟨rfl, NQ755, K755⟩ := hQ755
 have N756 := Fr.app N0 NQ755
 refine Rch.st (fun _ k => st755.trans k) ?_
 show Rch p e below T755 (mkF m 6 #[.val (.ref aa), .val (.int 47)] [(.int (nn >>> ((0 : Int32) &&& 31))), (.int 47), (.ref aa)]) _
 have r757 : (nn >>> ((0 : Int32) &&& 31)) = nn := own_sh0 nn
 rw [r757]
 show Rch p e below T755 (mkF m 6 #[.val (.ref aa), .val (.int 47)] [(.int nn), (.int 47), (.ref aa)]) _
 refine w_iconst (pc' := 7) (v := 1) X755 hx hby djdk42m82_6 rfl rfl ?_
 refine w_isub (pc' := 8) X755 hx hby djdk42m82_7 rfl ?_
 obtain ⟨cq758, kq758, q758a, q758b, q758c⟩ := isOf hZ K755 f2
 obtain ⟨_, _, ⟨T758, L758, k758, n758⟩, -, X758, ⟨Lc758, hQ758, l758, y758, z758⟩, st758⟩ := X755.virtualBack hx (y := (⟨"java/lang/String", "lastIndexOf", "(II)I"⟩ : MethodName)) (z := (⟨"java/lang/String", "lastIndexOf", "(II)I"⟩ : MethodName)) hown (mvT hZ (wi hw 38 rfl)) (mvT hZ (wi hw 39 rfl)) (notFace_of_selects (args := #[]) (mvT hZ (wi hw 41 rfl))) (mvT hZ (wi hw 41 rfl)) (mvT hZ (wi hw 40 rfl)) (by decide) (backOf (W := 0) (rm_l2 l Z a0 hw [] G1 aa bb kb nn bs h0 n0 Z0 (O2) (P5) f2 f3 f4 f5 (hnn) Old0) hZ (wi hw 42 rfl) (wi hw 9 rfl) (by decide) (by decide)) q758a q758c (g := (mkF m 8 #[.val (.ref aa), .val (.int 47)] [(.int (nn - (1 : Int32))), (.int 47), (.ref aa)])) rfl (by rw [hml]; rfl) (Steps.refl _) (argsL := [(.int 47), (.int (nn - (1 : Int32)))]) (rest := []) (lenOf pd__II_I rfl) rfl (by show 2 * 0 + _ ≤ _; exact Nat.le_of_eq rfl) (hb hby djdk42m82_8) (fun _ _ => ⟨rfl, K755, (by decide : 0 + 0 ≤ _), (by decide : 0 + 0 ≤ _)⟩)
 dsimp only [Pt.U, Pt.locs, Pt.cells, Pt.slots] at X758 l758 y758 z758 st758 hQ758
 subst l758 y758 z758
 obtain ⟨rfl, NQ758, K758⟩ := hQ758
 have N759 := Fr.app N756 NQ758
 refine Rch.st (fun _ k => st758.trans k) ?_
 show Rch p e below T758 (mkF m 11 #[.val (.ref aa), .val (.int 47)] [(.int (own_lst bs nn.toNatClampNeg))]) _
 exact Rch.retV X758 hx Bd.returns rfl (Or.inl ⟨rfl, by simp, _, rfl⟩) (hb hby djdk42m82_11) (by rw [K758]; exact ⟨rfl, N759, rfl⟩) (by decide) (by decide)

theorem djdk41m12_0 : decode jdk_41_method_12_code 0 = .ok (.iload_n 0, 1) := by decide +kernel
theorem djdk41m12_1 : decode jdk_41_method_12_code 1 = .ok (.ifCond .lt 13, 3) := by decide +kernel
theorem djdk41m12_4 : decode jdk_41_method_12_code 4 = .ok (.iload_n 0, 1) := by decide +kernel
theorem djdk41m12_5 : decode jdk_41_method_12_code 5 = .ok (.iload_n 1, 1) := by decide +kernel
theorem djdk41m12_6 : decode jdk_41_method_12_code 6 = .ok (.if_icmp .gt 8, 3) := by decide +kernel
theorem djdk41m12_9 : decode jdk_41_method_12_code 9 = .ok (.iload_n 1, 1) := by decide +kernel
theorem djdk41m12_10 : decode jdk_41_method_12_code 10 = .ok (.iload_n 2, 1) := by decide +kernel
theorem djdk41m12_11 : decode jdk_41_method_12_code 11 = .ok (.if_icmp .le 11, 3) := by decide +kernel
theorem djdk41m12_22 : decode jdk_41_method_12_code 22 = .ok (.iload_n 0, 1) := by decide +kernel
theorem djdk41m12_23 : decode jdk_41_method_12_code 23 = .ok (.ireturn, 1) := by decide +kernel
theorem ef_rm_cft (m : MethodId) (jj : Int32) (nn : Int32) (G3 : Value) (rG3 : G3.isRef = true) : entryFrame m #[(.int (0 : Int32)), (.int jj), (.int nn), G3] 4 = mkF m 0 #[.val (.int (0 : Int32)), .val (.int jj), .val (.int nn), .val G3] [] := by rcases ref_cases rG3 with rfl | ⟨_, rfl⟩ <;> first | (simp [entryFrame, mkF, argsToLocals, Value.category, maxLocals]; done) | rfl
def Q_rm_cft (Z : State) (jj : Int32) (nn : Int32) (G3 : Value) (h0 : Heap) (n0 : Nat) (v : Option Value) (h : Heap) (L : List Loc) : Prop := (v = some (.int (0 : Int32))) ∧ (Fr n0 L) ∧ (h = h0)
set_option maxRecDepth 65536 in
set_option maxHeartbeats 40000000 in
theorem rm_cft (l : Launch) (Z : State) (a0 : Array Value) (hw : ∀ d ∈ tables_1, d.before a0 Z = true) (ws : List Jvm.Cond) (jj : Int32) (nn : Int32) (G3 : Value) (h0 : Heap) (n0 : Nat) (Z0 : n0 ≤ h0.size) (rG3 : G3.isRef = true) (hz0 : ¬ jj < 0) (hle : ¬ nn < jj) :
    MetFree l (⟨"jdk/internal/util/Preconditions", "checkFromToIndex", "(IIILjava/util/function/BiFunction;)I"⟩ : MethodName) (head1 (Jvm.Cond.code (⟨"jdk/internal/util/Preconditions", "checkFromToIndex", "(IIILjava/util/function/BiFunction;)I"⟩ : MethodName) jdk_41_method_12_code 4 (some .int) :: ws) ({ frames := 0, cells := 0, slots := 0, locals := 0 } : Room)) (fun a U => a = #[(.int (0 : Int32)), (.int jj), (.int nn), G3] ∧ Z.Warmed39 U.vm ∧ U.heap = h0) (fun _ _ _ _ _ => True) (fun _ U o U' => ∃ v L, o = .returned v ∧ Q_rm_cft Z jj nn G3 h0 n0 v U'.heap L ∧ FrameEnd U o U' L ({ frames := 0, cells := 0, slots := 0, locals := 0 } : Room).cells ({ frames := 0, cells := 0, slots := 0, locals := 0 } : Room).slots) := by
 refine MetFree.of_bodySF (plainFor_of_name pn_jdk_internal_util_Preconditions) hisR ?_
 intro p e s m args below meth c s₁ Bd hml0 hP hK
 obtain ⟨rfl, hZ, hh⟩ := hP
 have hx := Bd.exec
 have hby := Bd.bytes
 have hml : c.maxLocals = 4 := hml0
 have hown : s.vm.findClass "jdk/internal/util/Preconditions" = some m.cls := findClass_of_methodNamed Bd.named
 have hnm := (name_of_methodNamed Bd.named Bd.method).1
 have X0 : Stand p l e ({ frames := 0, cells := 0, slots := 0, locals := 0 } : Room) s m #[(.int (0 : Int32)), (.int jj), (.int nn), G3] below meth c s₁ [] 0 0 := Stand.of_body Bd
 have e0 : s₁.heap = h0 := by rw [← hh, Bd.state]; rfl
 have N0 := Fr.nil n0
 have K00 : Keep h0 h0 [] := Keep.refl _ _
 show Rch p e below s₁ (entryFrame m #[(.int (0 : Int32)), (.int jj), (.int nn), G3] 4) (FinP s (Q_rm_cft Z jj nn G3 h0 n0) 0 0)
 refine Rch.cast (ef_rm_cft m jj nn G3 rG3) ?_
 show Rch p e below s₁ (mkF m 0 #[.val (.int 0), .val (.int jj), .val (.int nn), .val G3] []) _
 refine w_iloadN (pc' := 1) X0 hx hby djdk41m12_0 rfl rfl ?_
 refine w_ifNo (pc' := 4) X0 hx hby djdk41m12_1 (XT.i0_lt_f (by decide)) rfl ?_
 refine w_iloadN (pc' := 5) X0 hx hby djdk41m12_4 rfl rfl ?_
 refine w_iloadN (pc' := 6) X0 hx hby djdk41m12_5 rfl rfl ?_
 refine w_icmpNo (pc' := 9) X0 hx hby djdk41m12_6 (XT.ii_gt_f (hz0)) rfl ?_
 refine w_iloadN (pc' := 10) X0 hx hby djdk41m12_9 rfl rfl ?_
 refine w_iloadN (pc' := 11) X0 hx hby djdk41m12_10 rfl rfl ?_
 refine w_icmpYes (pc' := 22) X0 hx hby djdk41m12_11 (XT.ii_le_t (hle)) (by decide) ?_
 refine w_iloadN (pc' := 23) X0 hx hby djdk41m12_22 rfl rfl ?_
 exact Rch.retV X0 hx Bd.returns rfl (Or.inl ⟨rfl, by simp, _, rfl⟩) (hb hby djdk41m12_23) (by rw [e0]; exact ⟨rfl, N0, rfl⟩) (by decide) (by decide)

theorem djdk42m158_0 : decode jdk_42_method_158_code 0 = .ok (.iload_n 0, 1) := by decide +kernel
theorem djdk42m158_1 : decode jdk_42_method_158_code 1 = .ok (.iload_n 1, 1) := by decide +kernel
theorem djdk42m158_2 : decode jdk_42_method_158_code 2 = .ok (.iload_n 2, 1) := by decide +kernel
theorem djdk42m158_3 : decode jdk_42_method_158_code 3 = .ok (.getstatic 1053, 3) := by decide +kernel
theorem djdk42m158_6 : decode jdk_42_method_158_code 6 = .ok (.invokestatic 1062, 3) := by decide +kernel
theorem djdk42m158_9 : decode jdk_42_method_158_code 9 = .ok (.pop, 1) := by decide +kernel
theorem djdk42m158_10 : decode jdk_42_method_158_code 10 = .ok (.return_, 1) := by decide +kernel
theorem ef_rm_cbe (m : MethodId) (jj : Int32) (nn : Int32) (G3 : Value)  : entryFrame m #[(.int (0 : Int32)), (.int jj), (.int nn)] 3 = mkF m 0 #[.val (.int (0 : Int32)), .val (.int jj), .val (.int nn)] [] := by  first | (simp [entryFrame, mkF, argsToLocals, Value.category, maxLocals]; done) | rfl
def Q_rm_cbe (Z : State) (jj : Int32) (nn : Int32) (G3 : Value) (h0 : Heap) (n0 : Nat) (v : Option Value) (h : Heap) (L : List Loc) : Prop := (v = none) ∧ (Fr n0 L) ∧ (h = h0)
theorem pd__IIILjava_util_function_BiFunction__I : parseMethodDescriptor "(IIILjava/util/function/BiFunction;)I" = some ⟨[.int, .int, .int, (.object "java/util/function/BiFunction")], (some .int)⟩ := by decide +kernel
set_option maxRecDepth 65536 in
set_option maxHeartbeats 40000000 in
theorem rm_cbe (l : Launch) (Z : State) (a0 : Array Value) (hw : ∀ d ∈ tables_1, d.before a0 Z = true) (ws : List Jvm.Cond) (jj : Int32) (nn : Int32) (G3 : Value) (h0 : Heap) (n0 : Nat) (Z0 : n0 ≤ h0.size) (O4 : Sta Z Z.heap "jdk/internal/util/Preconditions" "SIOOBE_FORMATTER" "Ljava/util/function/BiFunction;" G3) (rG3 : G3.isRef = true) (hz0 : ¬ jj < 0) (hle : ¬ nn < jj) (Old0 : OldL Z n0 h0) :
    MetFree l (⟨"java/lang/String", "checkBoundsBeginEnd", "(III)V"⟩ : MethodName) (head1 (Jvm.Cond.code (⟨"java/lang/String", "checkBoundsBeginEnd", "(III)V"⟩ : MethodName) jdk_42_method_158_code 3 none :: ws) ({ frames := 1, cells := 0, slots := 0, locals := 15 } : Room)) (fun a U => a = #[(.int (0 : Int32)), (.int jj), (.int nn)] ∧ Z.Warmed39 U.vm ∧ U.heap = h0) (fun _ _ _ _ _ => True) (fun _ U o U' => ∃ v L, o = .returned v ∧ Q_rm_cbe Z jj nn G3 h0 n0 v U'.heap L ∧ FrameEnd U o U' L ({ frames := 1, cells := 0, slots := 0, locals := 15 } : Room).cells ({ frames := 1, cells := 0, slots := 0, locals := 15 } : Room).slots) := by
 refine MetFree.of_bodySF (plainFor_of_name pn_java_lang_String) hisR ?_
 intro p e s m args below meth c s₁ Bd hml0 hP hK
 obtain ⟨rfl, hZ, hh⟩ := hP
 have hx := Bd.exec
 have hby := Bd.bytes
 have hml : c.maxLocals = 3 := hml0
 have hown : s.vm.findClass "java/lang/String" = some m.cls := findClass_of_methodNamed Bd.named
 have hnm := (name_of_methodNamed Bd.named Bd.method).1
 have X0 : Stand p l e ({ frames := 1, cells := 0, slots := 0, locals := 15 } : Room) s m #[(.int (0 : Int32)), (.int jj), (.int nn)] below meth c s₁ [] 0 0 := Stand.of_body Bd
 have e0 : s₁.heap = h0 := by rw [← hh, Bd.state]; rfl
 have N0 := Fr.nil n0
 have K00 : Keep h0 h0 [] := Keep.refl _ _
 show Rch p e below s₁ (entryFrame m #[(.int (0 : Int32)), (.int jj), (.int nn)] 3) (FinP s (Q_rm_cbe Z jj nn G3 h0 n0) 0 0)
 refine Rch.cast (ef_rm_cbe m jj nn G3) ?_
 show Rch p e below s₁ (mkF m 0 #[.val (.int 0), .val (.int jj), .val (.int nn)] []) _
 refine w_iloadN (pc' := 1) X0 hx hby djdk42m158_0 rfl rfl ?_
 refine w_iloadN (pc' := 2) X0 hx hby djdk42m158_1 rfl rfl ?_
 refine w_iloadN (pc' := 3) X0 hx hby djdk42m158_2 rfl rfl ?_
 obtain ⟨T760, X760, e760, st760⟩ := getS X0 hx hZ hown (host := "") (wi hw 91 rfl) Via.refl e0 (O4.ext Old0.2) (g := (mkF m 3 #[.val (.int 0), .val (.int jj), .val (.int nn)] [(.int nn), (.int jj), (.int 0)])) rfl (hb hby djdk42m158_3)
 refine Rch.st (fun _ k => st760 _ k) ?_
 show Rch p e below T760 (mkF m 6 #[.val (.int 0), .val (.int jj), .val (.int nn)] [G3, (.int nn), (.int jj), (.int 0)]) _
 obtain ⟨_, _, ⟨T761, L761, k761, n761⟩, -, X761, ⟨Lc761, hQ761, l761, y761, z761⟩, st761⟩ := Jvm.LawKit.callS X760 hx (y := (⟨"jdk/internal/util/Preconditions", "checkFromToIndex", "(IIILjava/util/function/BiFunction;)I"⟩ : MethodName)) hown (mvT hZ (wi hw 93 rfl)) (mvT hZ (wi hw 94 rfl)) (mvT hZ (wi hw 92 rfl)) (mvT hZ (wi hw 95 rfl)) (by decide) (backOf (W := 0) (rm_cft l Z a0 hw [] jj nn G3 h0 n0 Z0 (rG3) (hz0) (hle)) hZ (wi hw 95 rfl) (wi hw 92 rfl) (by decide) (by decide)) (g := (mkF m 6 #[.val (.int 0), .val (.int jj), .val (.int nn)] [G3, (.int nn), (.int jj), (.int 0)])) rfl (by rw [hml]; rfl) (argsL := [(.int 0), (.int jj), (.int nn), G3]) (rest := []) (lenOf pd__IIILjava_util_function_BiFunction__I rfl) rfl (by show 2 * 0 + _ ≤ _; exact Nat.le_of_eq rfl) (hb hby djdk42m158_6) (fun _ _ => ⟨rfl, e760, (by decide : 0 + 0 ≤ _), (by decide : 0 + 0 ≤ _)⟩)
 dsimp only [Pt.U, Pt.locs, Pt.cells, Pt.slots] at X761 l761 y761 z761 st761 hQ761
 subst l761 y761 z761
 obtain ⟨rfl, NQ761, K761⟩ := hQ761
 have N762 := Fr.app N0 NQ761
 refine Rch.st (fun _ k => st761 _ k) ?_
 show Rch p e below T761 (mkF m 9 #[.val (.int 0), .val (.int jj), .val (.int nn)] [(.int 0)]) _
 refine w_pop (pc' := 10) X761 hx hby djdk42m158_9 rfl rfl ?_
 exact Rch.ret0 X761 hx Bd.returns (hb hby djdk42m158_10) (by rw [K761]; exact ⟨rfl, N762, rfl⟩) (by decide) (by decide)

theorem djdk43m47_0 : decode jdk_43_method_47_code 0 = .ok (.iload_n 2, 1) := by decide +kernel
theorem djdk43m47_1 : decode jdk_43_method_47_code 1 = .ok (.ifCond .ne 6, 3) := by decide +kernel
theorem djdk43m47_4 : decode jdk_43_method_47_code 4 = .ok (.ldc 151, 2) := by decide +kernel
theorem djdk43m47_6 : decode jdk_43_method_47_code 6 = .ok (.areturn, 1) := by decide +kernel
theorem djdk43m47_7 : decode jdk_43_method_47_code 7 = .ok (.new 1, 3) := by decide +kernel
theorem djdk43m47_10 : decode jdk_43_method_47_code 10 = .ok (.dup, 1) := by decide +kernel
theorem djdk43m47_11 : decode jdk_43_method_47_code 11 = .ok (.aload_n 0, 1) := by decide +kernel
theorem djdk43m47_12 : decode jdk_43_method_47_code 12 = .ok (.iload_n 1, 1) := by decide +kernel
theorem djdk43m47_13 : decode jdk_43_method_47_code 13 = .ok (.iload_n 1, 1) := by decide +kernel
theorem djdk43m47_14 : decode jdk_43_method_47_code 14 = .ok (.iload_n 2, 1) := by decide +kernel
theorem djdk43m47_15 : decode jdk_43_method_47_code 15 = .ok (.iadd, 1) := by decide +kernel
theorem djdk43m47_16 : decode jdk_43_method_47_code 16 = .ok (.invokestatic 232, 3) := by decide +kernel
theorem djdk43m47_19 : decode jdk_43_method_47_code 19 = .ok (.iconst 0, 1) := by decide +kernel
theorem djdk43m47_20 : decode jdk_43_method_47_code 20 = .ok (.invokespecial 112, 3) := by decide +kernel
theorem djdk43m47_23 : decode jdk_43_method_47_code 23 = .ok (.areturn, 1) := by decide +kernel
theorem ef_rm_ns (m : MethodId) (bb : Addr) (kb : ClassId) (nn : Int32) (bs : List Int32) (jj : Int32)  : entryFrame m #[(.ref bb), (.int (0 : Int32)), (.int jj)] 3 = mkF m 0 #[.val (.ref bb), .val (.int (0 : Int32)), .val (.int jj)] [] := by  first | (simp [entryFrame, mkF, argsToLocals, Value.category, maxLocals]; done) | rfl
def Q_rm_ns (Z : State) (bb : Addr) (kb : ClassId) (nn : Int32) (bs : List Int32) (jj : Int32) (h0 : Heap) (n0 : Nat) (v : Option Value) (h : Heap) (L : List Loc) : Prop := ∃ (ra : Addr) (t : Addr) (kt : ClassId), (v = some (.ref ra)) ∧ (Fr n0 L) ∧ (Keep h0 h []) ∧ (h0.size ≤ ra) ∧ (h0.size ≤ t) ∧ (Exa Z h ra "java/lang/String") ∧ (Fld Z h ra "java/lang/String" "coder" "B" (.int (0 : Int32))) ∧ (Fld Z h ra "java/lang/String" "value" "[B" (.ref t)) ∧ (Arv Z h t kt .byte jj (own_take (bs.map Value.int) (.int (0 : Int32)) jj.toNatClampNeg) (.int (0 : Int32)))
theorem pd___BB_V : parseMethodDescriptor "([BB)V" = some ⟨[(.array .byte), .byte], none⟩ := by decide +kernel
set_option maxRecDepth 65536 in
set_option maxHeartbeats 40000000 in
theorem rm_ns (l : Launch) (Z : State) (a0 : Array Value) (hw : ∀ d ∈ tables_1, d.before a0 Z = true) (ws : List Jvm.Cond) (bb : Addr) (kb : ClassId) (nn : Int32) (bs : List Int32) (jj : Int32) (h0 : Heap) (n0 : Nat) (Z0 : n0 ≤ h0.size) (f0 : Arv Z h0 bb kb .byte nn (bs.map Value.int) (.int (0 : Int32))) (hz0 : ¬ jj < 0) (hc8 : jj.toNatClampNeg ≤ 8) (hmn : own_min32 nn jj = jj) (hlt : jj.toNatClampNeg ≤ nn.toNatClampNeg) (hne : ¬ jj = nn) (hle : ¬ nn < jj) (hjz : ¬ jj = 0) :
    MetFree l (⟨"java/lang/StringLatin1", "newString", "([BII)Ljava/lang/String;"⟩ : MethodName) (head1 (Jvm.Cond.code (⟨"java/lang/StringLatin1", "newString", "([BII)Ljava/lang/String;"⟩ : MethodName) jdk_43_method_47_code 3 (some (.object "java/lang/String")) :: ws) ({ frames := 3, cells := 2, slots := 12, locals := 50 } : Room)) (fun a U => a = #[(.ref bb), (.int (0 : Int32)), (.int jj)] ∧ Z.Warmed39 U.vm ∧ U.heap = h0) (fun _ _ _ _ _ => True) (fun _ U o U' => ∃ v L, o = .returned v ∧ Q_rm_ns Z bb kb nn bs jj h0 n0 v U'.heap L ∧ FrameEnd U o U' L ({ frames := 3, cells := 2, slots := 12, locals := 50 } : Room).cells ({ frames := 3, cells := 2, slots := 12, locals := 50 } : Room).slots) := by
 refine MetFree.of_bodySF (plainFor_of_name pn_java_lang_StringLatin1) hisR ?_
 intro p e s m args below meth c s₁ Bd hml0 hP hK
 obtain ⟨rfl, hZ, hh⟩ := hP
 have hx := Bd.exec
 have hby := Bd.bytes
 have hml : c.maxLocals = 3 := hml0
 have hown : s.vm.findClass "java/lang/StringLatin1" = some m.cls := findClass_of_methodNamed Bd.named
 have hnm := (name_of_methodNamed Bd.named Bd.method).1
 have X0 : Stand p l e ({ frames := 3, cells := 2, slots := 12, locals := 50 } : Room) s m #[(.ref bb), (.int (0 : Int32)), (.int jj)] below meth c s₁ [] 0 0 := Stand.of_body Bd
 have e0 : s₁.heap = h0 := by rw [← hh, Bd.state]; rfl
 have N0 := Fr.nil n0
 have K00 : Keep h0 h0 [] := Keep.refl _ _
 show Rch p e below s₁ (entryFrame m #[(.ref bb), (.int (0 : Int32)), (.int jj)] 3) (FinP s (Q_rm_ns Z bb kb nn bs jj h0 n0) 2 12)
 refine Rch.cast (ef_rm_ns m bb kb nn bs jj) ?_
 show Rch p e below s₁ (mkF m 0 #[.val (.ref bb), .val (.int 0), .val (.int jj)] []) _
 refine w_iloadN (pc' := 1) X0 hx hby djdk43m47_0 rfl rfl ?_
 refine w_ifYes (pc' := 7) X0 hx hby djdk43m47_1 (XT.i0_ne_t (hjz)) (by decide) ?_
 obtain ⟨T763, h763, X763, e763, E763, A763, D763, -, st763⟩ := newO X0 hx hZ hown (wi hw 99 rfl) (wi hw 10 rfl) (wi hw 9 rfl) e0 (g := (mkF m 7 #[.val (.ref bb), .val (.int 0), .val (.int jj)] [])) rfl (hb hby djdk43m47_7) (by decide) (by decide)
 obtain ⟨a763, g763⟩ : ∃ z, z = h0.size := ⟨_, rfl⟩
 rw [← g763] at A763 D763 st763
 have ge765 : n0 ≤ a763 := Nat.le_trans Z0 (Nat.le_of_eq g763.symm)
 have f767 := f0.ext E763
 have Z768 := Nat.le_trans Z0 E763.1
 have Kp769 : Keep h0 h763 [] := K00.ext E763
 have f770 : Fld Z h763 a763 "java/lang/String" "coder" "B" (.int (0 : Int32)) := D763 (Or.inr (wi hw 13 rfl)) (ty := .byte) (by decide)
 have f771 : Fld Z h763 a763 "java/lang/String" "value" "[B" .null := D763 (Or.inr (wi hw 12 rfl)) (ty := (.array .byte)) (by decide)
 refine Rch.st (fun _ k => st763 _ k) ?_
 show Rch p e below T763 (mkF m 10 #[.val (.ref bb), .val (.int 0), .val (.int jj)] [(.ref a763)]) _
 refine w_dup (pc' := 11) X763 hx hby djdk43m47_10 rfl rfl ?_
 refine w_aloadN (pc' := 12) X763 hx hby djdk43m47_11 rfl rfl rfl ?_
 refine w_iloadN (pc' := 13) X763 hx hby djdk43m47_12 rfl rfl ?_
 refine w_iloadN (pc' := 14) X763 hx hby djdk43m47_13 rfl rfl ?_
 refine w_iloadN (pc' := 15) X763 hx hby djdk43m47_14 rfl rfl ?_
 refine w_iadd (pc' := 16) X763 hx hby djdk43m47_15 rfl ?_
 have r772 : ((0 : Int32) + jj) = jj := by simp
 rw [r772]
 show Rch p e below T763 (mkF m 16 #[.val (.ref bb), .val (.int 0), .val (.int jj)] [(.int jj), (.int 0), (.ref bb), (.ref a763), (.ref a763)]) _
 obtain ⟨_, _, ⟨T773, L773, k773, n773⟩, -, X773, ⟨Lc773, hQ773, l773, y773, z773⟩, st773⟩ := Jvm.LawKit.callS X763 hx (y := (⟨"java/util/Arrays", "copyOfRange", "([BII)[B"⟩ : MethodName)) hown (mvT hZ (wi hw 100 rfl)) (mvT hZ (wi hw 101 rfl)) (mvT hZ (wi hw 102 rfl)) (mvT hZ (wi hw 103 rfl)) (by decide) (backOf (W := 2) (rm_cr l Z a0 hw [] bb kb nn (bs.map Value.int) (.int 0) jj h763 n0 Z768 f767 (hz0) (hc8) (hmn) (hlt) (hne)) hZ (wi hw 103 rfl) (wi hw 102 rfl) (by decide) (by decide)) (g := (mkF m 16 #[.val (.ref bb), .val (.int 0), .val (.int jj)] [(.int jj), (.int 0), (.ref bb), (.ref a763), (.ref a763)])) rfl (by rw [hml]; rfl) (argsL := [(.ref bb), (.int 0), (.int jj)]) (rest := [(.ref a763), (.ref a763)]) (lenOf pd___BII__B rfl) rfl (by show 2 * 0 + _ ≤ _; exact Nat.le_of_eq rfl) (hb hby djdk43m47_16) (fun _ _ => ⟨rfl, e763, (by decide : 1 + 1 ≤ _), (by decide : 4 + 8 ≤ _)⟩)
 dsimp only [Pt.U, Pt.locs, Pt.cells, Pt.slots] at X773 l773 y773 z773 st773 hQ773
 subst l773 y773 z773
 obtain ⟨t_773, kt_773, rfl, NQ773, K773, pq773_0, fq773_0⟩ := hQ773
 have N774 := Fr.app N0 NQ773
 have ne775 := nlt A763.lt pq773_0
 have f779 := A763.keep K773
 have f780 := f770.keep K773 nin0
 have f781 := f771.keep K773 nin0
 have Kp782 : Keep h0 T773.heap [] := Kp769.trans K773 all0
 have Z783 := Nat.le_trans Z768 K773.1
 refine Rch.st (fun _ k => st773 _ k) ?_
 show Rch p e below T773 (mkF m 19 #[.val (.ref bb), .val (.int 0), .val (.int jj)] [(.ref t_773), (.ref a763), (.ref a763)]) _
 refine w_iconst (pc' := 20) (v := 0) X773 hx hby djdk43m47_19 rfl rfl ?_
 obtain ⟨_, _, ⟨T784, L784, k784, n784⟩, -, X784, ⟨Lc784, hQ784, l784, y784, z784⟩, st784⟩ := X773.specialBack hx (y := (⟨"java/lang/String", "<init>", "([BB)V"⟩ : MethodName)) rfl hown (mvT hZ (wi hw 115 rfl)) (mvT hZ (wi hw 116 rfl)) (mvT hZ (wi hw 117 rfl)) (by decide) (backOf (W := 1) (rm_BB l Z a0 hw [] a763 t_773 T773.heap n0 Z783 f779 f780 f781 (ge765)) hZ (wi hw 117 rfl) (wi hw 9 rfl) (by decide) (by decide)) (g := (mkF m 20 #[.val (.ref bb), .val (.int 0), .val (.int jj)] [(.int 0), (.ref t_773), (.ref a763), (.ref a763)])) rfl (by rw [hml]; rfl) (Steps.refl _) (a := a763) (argsL := [(.ref t_773), (.int 0)]) (rest := [(.ref a763)]) (lenOf pd___BB_V rfl) rfl (by show 2 * 0 + _ ≤ _; exact Nat.le_of_eq rfl) (hb hby djdk43m47_20) (fun _ _ => ⟨rfl, (rfl : T773.heap = T773.heap), (by decide : 2 + 0 ≤ _), (by decide : 12 + 0 ≤ _)⟩)
 dsimp only [Pt.U, Pt.locs, Pt.cells, Pt.slots] at X784 l784 y784 z784 st784 hQ784
 subst l784 y784 z784
 obtain ⟨rfl, NQ784, K784, fq784_0, fq784_1⟩ := hQ784
 have N785 := Fr.app N774 NQ784
 have f787 := f779.keep K784
 have f788 := fq773_0.keep K784 (ninS (Ne.symm ne775) nin0)
 have Kp789 : Keep h0 T784.heap [] := Kp782.trans K784 (allS (Or.inr (Nat.le_trans K00.1 (Nat.le_of_eq g763.symm))) all0)
 refine Rch.st (fun _ k => st784.trans k) ?_
 show Rch p e below T784 (mkF m 23 #[.val (.ref bb), .val (.int 0), .val (.int jj)] [(.ref a763)]) _
 exact Rch.retV X784 hx Bd.returns rfl (Or.inr (Or.inr (Or.inr (Or.inr ⟨rfl, rfl, rfl⟩)))) (hb hby djdk43m47_23) (by rw [(rfl : T784.heap = T784.heap)]; exact ⟨a763, t_773, kt_773, rfl, N785, Kp789, (Nat.le_trans K00.1 (Nat.le_of_eq g763.symm)), (Nat.le_trans Kp769.1 pq773_0), f787, fq784_0, fq784_1, f788⟩) (by decide) (by decide)

theorem ef_rm_ns0 (m : MethodId) (bb : Addr) (kb : ClassId) (nn : Int32) (bs : List Int32)  : entryFrame m #[(.ref bb), (.int (0 : Int32)), (.int (0 : Int32))] 3 = mkF m 0 #[.val (.ref bb), .val (.int (0 : Int32)), .val (.int (0 : Int32))] [] := by  first | (simp [entryFrame, mkF, argsToLocals, Value.category, maxLocals]; done) | rfl
def Q_rm_ns0 (Z : State) (bb : Addr) (kb : ClassId) (nn : Int32) (bs : List Int32) (h0 : Heap) (n0 : Nat) (v : Option Value) (h : Heap) (vm : Vm) (L : List Loc) : Prop := ∃ (ra : Addr) (t : Addr) (kt : ClassId), (v = some (.ref ra)) ∧ (Fr n0 L) ∧ (Keep h0 h []) ∧ (Exa Z h ra "java/lang/String") ∧ (Fld Z h ra "java/lang/String" "coder" "B" (.int (0 : Int32))) ∧ (Fld Z h ra "java/lang/String" "value" "[B" (.ref t)) ∧ (Arv Z h t kt .byte (0 : Int32) [] (.int (0 : Int32))) ∧ (CHv Z consts_1 vm h)
set_option maxRecDepth 65536 in
set_option maxHeartbeats 40000000 in
theorem rm_ns0 (l : Launch) (Z : State) (a0 : Array Value) (hw : ∀ d ∈ tables_1, d.before a0 Z = true) (ws : List Jvm.Cond) (bb : Addr) (kb : ClassId) (nn : Int32) (bs : List Int32) (h0 : Heap) (n0 : Nat) (Z0 : n0 ≤ h0.size) (Old0 : OldL Z n0 h0) :
    MetFree l (⟨"java/lang/StringLatin1", "newString", "([BII)Ljava/lang/String;"⟩ : MethodName) (head1 (Jvm.Cond.code (⟨"java/lang/StringLatin1", "newString", "([BII)Ljava/lang/String;"⟩ : MethodName) jdk_43_method_47_code 3 (some (.object "java/lang/String")) :: ws) ({ frames := 0, cells := 2, slots := 4, locals := 0 } : Room)) (fun a U => a = #[(.ref bb), (.int (0 : Int32)), (.int (0 : Int32))] ∧ Z.Warmed39 U.vm ∧ U.heap = h0 ∧ CHv Z consts_1 U.vm h0) (fun _ _ _ _ _ => True) (fun _ U o U' => ∃ v L, o = .returned v ∧ Q_rm_ns0 Z bb kb nn bs h0 n0 v U'.heap U'.vm L ∧ ReturnedEndW U o U' L ({ frames := 0, cells := 2, slots := 4, locals := 0 } : Room).cells ({ frames := 0, cells := 2, slots := 4, locals := 0 } : Room).slots) := by
 refine MetFree.of_bodySF (plainFor_of_name pn_java_lang_StringLatin1) hisR ?_
 intro p e s m args below meth c s₁ Bd hml0 hP hK
 obtain ⟨rfl, hZ, hh, hI⟩ := hP
 have hx := Bd.exec
 have hby := Bd.bytes
 have hml : c.maxLocals = 3 := hml0
 have hown : s.vm.findClass "java/lang/StringLatin1" = some m.cls := findClass_of_methodNamed Bd.named
 have hnm := (name_of_methodNamed Bd.named Bd.method).1
 have X0 : Stand p l e ({ frames := 0, cells := 2, slots := 4, locals := 0 } : Room) (s.setVm s.vm) m #[(.ref bb), (.int (0 : Int32)), (.int (0 : Int32))] below meth c s₁ [] 0 0 := Stand.of_body Bd
 have e0 : s₁.heap = h0 := by rw [← hh, Bd.state]; rfl
 have N0 := Fr.nil n0
 have K00 : Keep h0 h0 [] := Keep.refl _ _
 have hS0 : s.Since s.vm s.heap.size := (State.WarmedH.refl s).since _
 have hk0 : s.heap.size ≤ h0.size := by rw [hh]; exact Nat.le_refl _
 have hkeep : ∀ (b : Addr) (cl : Cell), Z.heap[b]? = some cl → s.heap[b]? = some cl := by rw [hh]; exact Old0.2.2
 show Rch p e below s₁ (entryFrame m #[(.ref bb), (.int (0 : Int32)), (.int (0 : Int32))] 3) (FinW s (Q_rm_ns0 Z bb kb nn bs h0 n0) 2 4)
 refine Rch.cast (ef_rm_ns0 m bb kb nn bs) ?_
 have hEL := own_EW hw
 have Z0f := Nat.le_refl h0.size
 have N0f := Fr.nil h0.size
 have OldF := Old0.up Z0
 show Rch p e below s₁ (mkF m 0 #[.val (.ref bb), .val (.int 0), .val (.int 0)] []) _
 refine w_iloadN (pc' := 1) X0 hx hby djdk43m47_0 rfl rfl ?_
 refine w_ifNo (pc' := 4) X0 hx hby djdk43m47_1 (XT.i0_ne_f (by decide)) rfl ?_
 obtain ⟨a791, T791, h791, k791, b791, kc791, X791, e791, E791, hS791, hk791, hZ791, hown791, Ex791, Fc791, Fv791, Va791, lt791, lu791, C791, Li791, sf791, st791⟩ := ldcCH (s := s) (vm0 := s.vm) X0 hx hZ hown (wi hw 132 rfl) (fun d hd => hw d ((by decide +kernel : ∀ d ∈ Bundle.stringAtoms, d ∈ tables_1) d hd)) e0 hS0 hk0 hEL (List.mem_of_getElem? (i := 2) rfl) hI (vs := []) (z := (0 : Int32)) ⟨by decide, by decide⟩ (by decide) (by decide) (g := (mkF m 4 #[.val (.ref bb), .val (.int 0), .val (.int 0)] [])) rfl (hb hby djdk43m47_4) (n := 0) (by decide) (by decide) (by decide) (by decide)
 have CH793 := CHv.ext E791 hI
 have Kp796 : Keep h0 h791 [] := K00.ext E791
 refine Rch.st (fun _ k => st791 _ k) ?_
 show Rch p e below T791 (mkF m 6 #[.val (.ref bb), .val (.int 0), .val (.int 0)] [(.ref a791)]) _
 exact Rch.retVW X791 hx hS791 (by rw [e791]; exact hk791) Bd.returns rfl (Or.inr (Or.inr (Or.inr (Or.inr ⟨rfl, rfl, rfl⟩)))) (hb hby djdk43m47_6) (by rw [e791]; exact ⟨a791, b791, kc791, rfl, (own_Fr Z0 N0f), Kp796, Ex791, Fc791, Fv791, Va791, own_chv (s := s) (vm0 := T791.vm) hZ791 hEL X791.warmed C791.1⟩) (by decide) (by decide)

theorem djdk42m92_0 : decode jdk_42_method_92_code 0 = .ok (.aload_n 0, 1) := by decide +kernel
theorem djdk42m92_1 : decode jdk_42_method_92_code 1 = .ok (.invokevirtual 505, 3) := by decide +kernel
theorem djdk42m92_4 : decode jdk_42_method_92_code 4 = .ok (.istore_n 3, 1) := by decide +kernel
theorem djdk42m92_5 : decode jdk_42_method_92_code 5 = .ok (.iload_n 1, 1) := by decide +kernel
theorem djdk42m92_6 : decode jdk_42_method_92_code 6 = .ok (.iload_n 2, 1) := by decide +kernel
theorem djdk42m92_7 : decode jdk_42_method_92_code 7 = .ok (.iload_n 3, 1) := by decide +kernel
theorem djdk42m92_8 : decode jdk_42_method_92_code 8 = .ok (.invokestatic 521, 3) := by decide +kernel
theorem djdk42m92_11 : decode jdk_42_method_92_code 11 = .ok (.iload_n 1, 1) := by decide +kernel
theorem djdk42m92_12 : decode jdk_42_method_92_code 12 = .ok (.ifCond .ne 10, 3) := by decide +kernel
theorem djdk42m92_15 : decode jdk_42_method_92_code 15 = .ok (.iload_n 2, 1) := by decide +kernel
theorem djdk42m92_16 : decode jdk_42_method_92_code 16 = .ok (.iload_n 3, 1) := by decide +kernel
theorem djdk42m92_17 : decode jdk_42_method_92_code 17 = .ok (.if_icmp .ne 5, 3) := by decide +kernel
theorem djdk42m92_22 : decode jdk_42_method_92_code 22 = .ok (.iload_n 2, 1) := by decide +kernel
theorem djdk42m92_23 : decode jdk_42_method_92_code 23 = .ok (.iload_n 1, 1) := by decide +kernel
theorem djdk42m92_24 : decode jdk_42_method_92_code 24 = .ok (.isub, 1) := by decide +kernel
theorem djdk42m92_25 : decode jdk_42_method_92_code 25 = .ok (.istore 4, 2) := by decide +kernel
theorem djdk42m92_27 : decode jdk_42_method_92_code 27 = .ok (.aload_n 0, 1) := by decide +kernel
theorem djdk42m92_28 : decode jdk_42_method_92_code 28 = .ok (.invokevirtual 492, 3) := by decide +kernel
theorem djdk42m92_31 : decode jdk_42_method_92_code 31 = .ok (.ifCond .eq 16, 3) := by decide +kernel
theorem djdk42m92_34 : decode jdk_42_method_92_code 34 = .ok (.aload_n 0, 1) := by decide +kernel
theorem djdk42m92_35 : decode jdk_42_method_92_code 35 = .ok (.getfield 9, 3) := by decide +kernel
theorem djdk42m92_38 : decode jdk_42_method_92_code 38 = .ok (.iload_n 1, 1) := by decide +kernel
theorem djdk42m92_39 : decode jdk_42_method_92_code 39 = .ok (.iload 4, 2) := by decide +kernel
theorem djdk42m92_41 : decode jdk_42_method_92_code 41 = .ok (.invokestatic 685, 3) := by decide +kernel
theorem djdk42m92_44 : decode jdk_42_method_92_code 44 = .ok (.goto 13, 3) := by decide +kernel
theorem djdk42m92_57 : decode jdk_42_method_92_code 57 = .ok (.areturn, 1) := by decide +kernel
theorem ef_rm_sub0 (m : MethodId) (G1 : Int32) (G3 : Value) (aa : Addr) (bb : Addr) (kb : ClassId) (nn : Int32) (bs : List Int32) (jj : Int32)  : entryFrame m #[(.ref aa), (.int (0 : Int32)), (.int jj)] 5 = mkF m 0 #[.val (.ref aa), .val (.int (0 : Int32)), .val (.int jj), .unset, .unset] [] := by  first | (simp [entryFrame, mkF, argsToLocals, Value.category, maxLocals]; done) | rfl
def Q_rm_sub0 (Z : State) (G1 : Int32) (G3 : Value) (aa : Addr) (bb : Addr) (kb : ClassId) (nn : Int32) (bs : List Int32) (jj : Int32) (h0 : Heap) (n0 : Nat) (v : Option Value) (h : Heap) (L : List Loc) : Prop := ∃ (ra : Addr) (t : Addr) (kt : ClassId), (v = some (.ref ra)) ∧ (Fr n0 L) ∧ (Keep h0 h []) ∧ (h0.size ≤ ra) ∧ (h0.size ≤ t) ∧ (Exa Z h ra "java/lang/String") ∧ (Fld Z h ra "java/lang/String" "coder" "B" (.int (0 : Int32))) ∧ (Fld Z h ra "java/lang/String" "value" "[B" (.ref t)) ∧ (Arv Z h t kt .byte jj (own_take (bs.map Value.int) (.int (0 : Int32)) jj.toNatClampNeg) (.int (0 : Int32)))
theorem pd__III_V : parseMethodDescriptor "(III)V" = some ⟨[.int, .int, .int], none⟩ := by decide +kernel
theorem pd___BII_Ljava_lang_String_ : parseMethodDescriptor "([BII)Ljava/lang/String;" = some ⟨[(.array .byte), .int, .int], (some (.object "java/lang/String"))⟩ := by decide +kernel
set_option maxRecDepth 65536 in
set_option maxHeartbeats 40000000 in
theorem rm_sub0 (l : Launch) (Z : State) (a0 : Array Value) (hw : ∀ d ∈ tables_1, d.before a0 Z = true) (ws : List Jvm.Cond) (G1 : Int32) (G3 : Value) (aa : Addr) (bb : Addr) (kb : ClassId) (nn : Int32) (bs : List Int32) (jj : Int32) (h0 : Heap) (n0 : Nat) (Z0 : n0 ≤ h0.size) (O2 : Sta Z Z.heap "java/lang/String" "COMPACT_STRINGS" "Z" (.int G1)) (P5 : ¬ G1 = 0) (O4 : Sta Z Z.heap "jdk/internal/util/Preconditions" "SIOOBE_FORMATTER" "Ljava/util/function/BiFunction;" G3) (rG3 : G3.isRef = true) (f4 : Exa Z h0 aa "java/lang/String") (f5 : Fld Z h0 aa "java/lang/String" "coder" "B" (.int (0 : Int32))) (f6 : Fld Z h0 aa "java/lang/String" "value" "[B" (.ref bb)) (f7 : Arv Z h0 bb kb .byte nn (bs.map Value.int) (.int (0 : Int32))) (hz0 : ¬ jj < 0) (hc8 : jj.toNatClampNeg ≤ 8) (hmn : own_min32 nn jj = jj) (hlt : jj.toNatClampNeg ≤ nn.toNatClampNeg) (hne : ¬ jj = nn) (hle : ¬ nn < jj) (hjz : ¬ jj = 0) (Old0 : OldL Z n0 h0) :
    MetFree l (⟨"java/lang/String", "substring", "(II)Ljava/lang/String;"⟩ : MethodName) (head1 (Jvm.Cond.code (⟨"java/lang/String", "substring", "(II)Ljava/lang/String;"⟩ : MethodName) jdk_42_method_92_code 5 (some (.object "java/lang/String")) :: ws) ({ frames := 4, cells := 2, slots := 12, locals := 64 } : Room)) (fun a U => a = #[(.ref aa), (.int (0 : Int32)), (.int jj)] ∧ Z.Warmed39 U.vm ∧ U.heap = h0) (fun _ _ _ _ _ => True) (fun _ U o U' => ∃ v L, o = .returned v ∧ Q_rm_sub0 Z G1 G3 aa bb kb nn bs jj h0 n0 v U'.heap L ∧ FrameEnd U o U' L ({ frames := 4, cells := 2, slots := 12, locals := 64 } : Room).cells ({ frames := 4, cells := 2, slots := 12, locals := 64 } : Room).slots) := by
 refine MetFree.of_bodySF (plainFor_of_name pn_java_lang_String) hisR ?_
 intro p e s m args below meth c s₁ Bd hml0 hP hK
 obtain ⟨rfl, hZ, hh⟩ := hP
 have hx := Bd.exec
 have hby := Bd.bytes
 have hml : c.maxLocals = 5 := hml0
 have hown : s.vm.findClass "java/lang/String" = some m.cls := findClass_of_methodNamed Bd.named
 have hnm := (name_of_methodNamed Bd.named Bd.method).1
 have X0 : Stand p l e ({ frames := 4, cells := 2, slots := 12, locals := 64 } : Room) s m #[(.ref aa), (.int (0 : Int32)), (.int jj)] below meth c s₁ [] 0 0 := Stand.of_body Bd
 have e0 : s₁.heap = h0 := by rw [← hh, Bd.state]; rfl
 have N0 := Fr.nil n0
 have K00 : Keep h0 h0 [] := Keep.refl _ _
 show Rch p e below s₁ (entryFrame m #[(.ref aa), (.int (0 : Int32)), (.int jj)] 5) (FinP s (Q_rm_sub0 Z G1 G3 aa bb kb nn bs jj h0 n0) 2 12)
 refine Rch.cast (ef_rm_sub0 m G1 G3 aa bb kb nn bs jj) ?_
 show Rch p e below s₁ (mkF m 0 #[.val (.ref aa), .val (.int 0), .val (.int jj), .unset, .unset] []) _
 refine w_aloadN (pc' := 1) X0 hx hby djdk42m92_0 rfl rfl rfl ?_
 obtain ⟨cq797, kq797, q797a, q797b, q797c⟩ := isOf hZ e0 f4
 obtain ⟨_, _, ⟨T797, L797, k797, n797⟩, -, X797, ⟨Lc797, hQ797, l797, y797, z797⟩, st797⟩ := X0.virtualBack hx (y := (⟨"java/lang/String", "length", "()I"⟩ : MethodName)) (z := (⟨"java/lang/String", "length", "()I"⟩ : MethodName)) hown (mvT hZ (wi hw 25 rfl)) (mvT hZ (wi hw 26 rfl)) (notFace_of_selects (args := #[]) (mvT hZ (wi hw 28 rfl))) (mvT hZ (wi hw 28 rfl)) (mvT hZ (wi hw 27 rfl)) (by decide) (backOf (W := 0) (rm_length l Z a0 hw [] G1 aa 0 bb kb nn (bs.map Value.int) (.int 0) h0 n0 Z0 (O2) (P5) f5 (Or.inl rfl) f6 f7 f4 Old0) hZ (wi hw 29 rfl) (wi hw 9 rfl) (by decide) (by decide)) q797a q797c (g := (mkF m 1 #[.val (.ref aa), .val (.int 0), .val (.int jj), .unset, .unset] [(.ref aa)])) rfl (by rw [hml]; rfl) (Steps.refl _) (argsL := []) (rest := []) (lenOf pd___I rfl) rfl (by show 2 * 0 + _ ≤ _; exact Nat.le_of_eq rfl) (hb hby djdk42m92_1) (fun _ _ => ⟨rfl, e0, (by decide : 0 + 0 ≤ _), (by decide : 0 + 0 ≤ _)⟩)
 dsimp only [Pt.U, Pt.locs, Pt.cells, Pt.slots] at X797 l797 y797 z797 st797 hQ797
 subst l797 y797 z797
 obtain ⟨rfl, NQ797, K797⟩ := hQ797
 have N798 := Fr.app N0 NQ797
 refine Rch.st (fun _ k => st797.trans k) ?_
 show Rch p e below T797 (mkF m 4 #[.val (.ref aa), .val (.int 0), .val (.int jj), .unset, .unset] [(.int (nn >>> ((0 : Int32) &&& 31)))]) _
 have r799 : (nn >>> ((0 : Int32) &&& 31)) = nn := own_sh0 nn
 rw [r799]
 show Rch p e below T797 (mkF m 4 #[.val (.ref aa), .val (.int 0), .val (.int jj), .unset, .unset] [(.int nn)]) _
 refine w_istoreN (pc' := 5) (l' := #[.val (.ref aa), .val (.int 0), .val (.int jj), .val (.int nn), .unset]) X797 hx hby djdk42m92_4 rfl rfl ?_
 refine w_iloadN (pc' := 6) X797 hx hby djdk42m92_5 rfl rfl ?_
 refine w_iloadN (pc' := 7) X797 hx hby djdk42m92_6 rfl rfl ?_
 refine w_iloadN (pc' := 8) X797 hx hby djdk42m92_7 rfl rfl ?_
 obtain ⟨_, _, ⟨T800, L800, k800, n800⟩, -, X800, ⟨Lc800, hQ800, l800, y800, z800⟩, st800⟩ := Jvm.LawKit.callS X797 hx (y := (⟨"java/lang/String", "checkBoundsBeginEnd", "(III)V"⟩ : MethodName)) hown (mvT hZ (wi hw 88 rfl)) (mvT hZ (wi hw 89 rfl)) (mvT hZ (wi hw 9 rfl)) (mvT hZ (wi hw 90 rfl)) (by decide) (backOf (W := 0) (rm_cbe l Z a0 hw [] jj nn G3 h0 n0 Z0 (O4) (rG3) (hz0) (hle) Old0) hZ (wi hw 90 rfl) (wi hw 9 rfl) (by decide) (by decide)) (g := (mkF m 8 #[.val (.ref aa), .val (.int 0), .val (.int jj), .val (.int nn), .unset] [(.int nn), (.int jj), (.int 0)])) rfl (by rw [hml]; rfl) (argsL := [(.int 0), (.int jj), (.int nn)]) (rest := []) (lenOf pd__III_V rfl) rfl (by show 2 * 0 + _ ≤ _; exact Nat.le_of_eq rfl) (hb hby djdk42m92_8) (fun _ _ => ⟨rfl, K797, (by decide : 0 + 0 ≤ _), (by decide : 0 + 0 ≤ _)⟩)
 dsimp only [Pt.U, Pt.locs, Pt.cells, Pt.slots] at X800 l800 y800 z800 st800 hQ800
 subst l800 y800 z800
 obtain ⟨rfl, NQ800, K800⟩ := hQ800
 have N801 := Fr.app N798 NQ800
 refine Rch.st (fun _ k => st800 _ k) ?_
 show Rch p e below T800 (mkF m 11 #[.val (.ref aa), .val (.int 0), .val (.int jj), .val (.int nn), .unset] []) _
 refine w_iloadN (pc' := 12) X800 hx hby djdk42m92_11 rfl rfl ?_
 refine w_ifNo (pc' := 15) X800 hx hby djdk42m92_12 (XT.i0_ne_f (by decide)) rfl ?_
 refine w_iloadN (pc' := 16) X800 hx hby djdk42m92_15 rfl rfl ?_
 refine w_iloadN (pc' := 17) X800 hx hby djdk42m92_16 rfl rfl ?_
 refine w_icmpYes (pc' := 22) X800 hx hby djdk42m92_17 (XT.ii_ne_t (hne)) (by decide) ?_
 refine w_iloadN (pc' := 23) X800 hx hby djdk42m92_22 rfl rfl ?_
 refine w_iloadN (pc' := 24) X800 hx hby djdk42m92_23 rfl rfl ?_
 refine w_isub (pc' := 25) X800 hx hby djdk42m92_24 rfl ?_
 have r802 : (jj - (0 : Int32)) = jj := by simp
 rw [r802]
 show Rch p e below T800 (mkF m 25 #[.val (.ref aa), .val (.int 0), .val (.int jj), .val (.int nn), .unset] [(.int jj)]) _
 refine w_istore (pc' := 27) (l' := #[.val (.ref aa), .val (.int 0), .val (.int jj), .val (.int nn), .val (.int jj)]) X800 hx hby djdk42m92_25 rfl rfl ?_
 refine w_aloadN (pc' := 28) X800 hx hby djdk42m92_27 rfl rfl rfl ?_
 obtain ⟨cq803, kq803, q803a, q803b, q803c⟩ := isOf hZ K800 f4
 obtain ⟨_, _, ⟨T803, L803, k803, n803⟩, -, X803, ⟨Lc803, hQ803, l803, y803, z803⟩, st803⟩ := X800.virtualBack hx (y := (⟨"java/lang/String", "isLatin1", "()Z"⟩ : MethodName)) (z := (⟨"java/lang/String", "isLatin1", "()Z"⟩ : MethodName)) hown (mvT hZ (wi hw 43 rfl)) (mvT hZ (wi hw 44 rfl)) (notFace_of_selects (args := #[]) (mvT hZ (wi hw 46 rfl))) (mvT hZ (wi hw 46 rfl)) (mvT hZ (wi hw 45 rfl)) (by decide) (backOf (W := 0) (rm_isl l Z a0 hw [] G1 aa h0 n0 Z0 (O2) (P5) f5 Old0) hZ (wi hw 47 rfl) (wi hw 9 rfl) (by decide) (by decide)) q803a q803c (g := (mkF m 28 #[.val (.ref aa), .val (.int 0), .val (.int jj), .val (.int nn), .val (.int jj)] [(.ref aa)])) rfl (by rw [hml]; rfl) (Steps.refl _) (argsL := []) (rest := []) (lenOf pd___Z rfl) rfl (by show 2 * 0 + _ ≤ _; exact Nat.le_of_eq rfl) (hb hby djdk42m92_28) (fun _ _ => ⟨rfl, K800, (by decide : 0 + 0 ≤ _), (by decide : 0 + 0 ≤ _)⟩)
 dsimp only [Pt.U, Pt.locs, Pt.cells, Pt.slots] at X803 l803 y803 z803 st803 hQ803
 subst l803 y803 z803
 obtain ⟨rfl, NQ803, K803⟩ := hQ803
 have N804 := Fr.app N801 NQ803
 refine Rch.st (fun _ k => st803.trans k) ?_
 show Rch p e below T803 (mkF m 31 #[.val (.ref aa), .val (.int 0), .val (.int jj), .val (.int nn), .val (.int jj)] [(.int 1)]) _
 refine w_ifNo (pc' := 34) X803 hx hby djdk42m92_31 (XT.i0_eq_f (by decide)) rfl ?_
 refine w_aloadN (pc' := 35) X803 hx hby djdk42m92_34 rfl rfl rfl ?_
 obtain ⟨T805, X805, e805, st805⟩ := getF X803 hx hZ hown (host := "") (Or.inl (wi hw 30 rfl)) Via.refl K803 f6 (g := (mkF m 35 #[.val (.ref aa), .val (.int 0), .val (.int jj), .val (.int nn), .val (.int jj)] [(.ref aa)])) rfl rfl (hb hby djdk42m92_35)
 refine Rch.st (fun _ k => st805 _ k) ?_
 show Rch p e below T805 (mkF m 38 #[.val (.ref aa), .val (.int 0), .val (.int jj), .val (.int nn), .val (.int jj)] [(.ref bb)]) _
 refine w_iloadN (pc' := 39) X805 hx hby djdk42m92_38 rfl rfl ?_
 refine w_iload (pc' := 41) X805 hx hby djdk42m92_39 rfl rfl ?_
 obtain ⟨_, _, ⟨T806, L806, k806, n806⟩, -, X806, ⟨Lc806, hQ806, l806, y806, z806⟩, st806⟩ := Jvm.LawKit.callS X805 hx (y := (⟨"java/lang/StringLatin1", "newString", "([BII)Ljava/lang/String;"⟩ : MethodName)) hown (mvT hZ (wi hw 96 rfl)) (mvT hZ (wi hw 97 rfl)) (mvT hZ (wi hw 50 rfl)) (mvT hZ (wi hw 98 rfl)) (by decide) (backOf (W := 0) (rm_ns l Z a0 hw [] bb kb nn bs jj h0 n0 Z0 f7 (hz0) (hc8) (hmn) (hlt) (hne) (hle) (hjz)) hZ (wi hw 98 rfl) (wi hw 50 rfl) (by decide) (by decide)) (g := (mkF m 41 #[.val (.ref aa), .val (.int 0), .val (.int jj), .val (.int nn), .val (.int jj)] [(.int jj), (.int 0), (.ref bb)])) rfl (by rw [hml]; rfl) (argsL := [(.ref bb), (.int 0), (.int jj)]) (rest := []) (lenOf pd___BII_Ljava_lang_String_ rfl) rfl (by show 2 * 0 + _ ≤ _; exact Nat.le_of_eq rfl) (hb hby djdk42m92_41) (fun _ _ => ⟨rfl, e805, (by decide : 0 + 2 ≤ _), (by decide : 0 + 12 ≤ _)⟩)
 dsimp only [Pt.U, Pt.locs, Pt.cells, Pt.slots] at X806 l806 y806 z806 st806 hQ806
 subst l806 y806 z806
 obtain ⟨ra_806, t_806, kt_806, rfl, NQ806, K806, pq806_0, pq806_1, fq806_0, fq806_1, fq806_2, fq806_3⟩ := hQ806
 have N807 := Fr.app N804 NQ806
 have Kp819 : Keep h0 T806.heap [] := K00.trans K806 all0
 refine Rch.st (fun _ k => st806 _ k) ?_
 show Rch p e below T806 (mkF m 44 #[.val (.ref aa), .val (.int 0), .val (.int jj), .val (.int nn), .val (.int jj)] [(.ref ra_806)]) _
 refine w_goto (pc' := 57) X806 hx hby djdk42m92_44 (by decide) ?_
 exact Rch.retV X806 hx Bd.returns rfl (Or.inr (Or.inr (Or.inr (Or.inr ⟨rfl, rfl, rfl⟩)))) (hb hby djdk42m92_57) (by rw [(rfl : T806.heap = T806.heap)]; exact ⟨ra_806, t_806, kt_806, rfl, N807, Kp819, (Nat.le_trans K00.1 pq806_0), (Nat.le_trans K00.1 pq806_1), fq806_0, fq806_1, fq806_2, fq806_3⟩) (by decide) (by decide)

theorem ef_rm_sub1 (m : MethodId) (G1 : Int32) (G3 : Value) (aa : Addr) (bb : Addr) (kb : ClassId) (nn : Int32) (bs : List Int32)  : entryFrame m #[(.ref aa), (.int (0 : Int32)), (.int (0 : Int32))] 5 = mkF m 0 #[.val (.ref aa), .val (.int (0 : Int32)), .val (.int (0 : Int32)), .unset, .unset] [] := by  first | (simp [entryFrame, mkF, argsToLocals, Value.category, maxLocals]; done) | rfl
def Q_rm_sub1 (Z : State) (G1 : Int32) (G3 : Value) (aa : Addr) (bb : Addr) (kb : ClassId) (nn : Int32) (bs : List Int32) (h0 : Heap) (n0 : Nat) (v : Option Value) (h : Heap) (vm : Vm) (L : List Loc) : Prop := ∃ (ra : Addr) (t : Addr) (kt : ClassId), (v = some (.ref ra)) ∧ (Fr n0 L) ∧ (Keep h0 h []) ∧ (Exa Z h ra "java/lang/String") ∧ (Fld Z h ra "java/lang/String" "coder" "B" (.int (0 : Int32))) ∧ (Fld Z h ra "java/lang/String" "value" "[B" (.ref t)) ∧ (Arv Z h t kt .byte (0 : Int32) [] (.int (0 : Int32))) ∧ (CHv Z consts_1 vm h)
set_option maxRecDepth 65536 in
set_option maxHeartbeats 40000000 in
theorem rm_sub1 (l : Launch) (Z : State) (a0 : Array Value) (hw : ∀ d ∈ tables_1, d.before a0 Z = true) (ws : List Jvm.Cond) (G1 : Int32) (G3 : Value) (aa : Addr) (bb : Addr) (kb : ClassId) (nn : Int32) (bs : List Int32) (h0 : Heap) (n0 : Nat) (Z0 : n0 ≤ h0.size) (O2 : Sta Z Z.heap "java/lang/String" "COMPACT_STRINGS" "Z" (.int G1)) (P5 : ¬ G1 = 0) (O4 : Sta Z Z.heap "jdk/internal/util/Preconditions" "SIOOBE_FORMATTER" "Ljava/util/function/BiFunction;" G3) (rG3 : G3.isRef = true) (f4 : Exa Z h0 aa "java/lang/String") (f5 : Fld Z h0 aa "java/lang/String" "coder" "B" (.int (0 : Int32))) (f6 : Fld Z h0 aa "java/lang/String" "value" "[B" (.ref bb)) (f7 : Arv Z h0 bb kb .byte nn (bs.map Value.int) (.int (0 : Int32))) (hle : ¬ nn < (0 : Int32)) (hne : ¬ (0 : Int32) = nn) (Old0 : OldL Z n0 h0) :
    MetFree l (⟨"java/lang/String", "substring", "(II)Ljava/lang/String;"⟩ : MethodName) (head1 (Jvm.Cond.code (⟨"java/lang/String", "substring", "(II)Ljava/lang/String;"⟩ : MethodName) jdk_42_method_92_code 5 (some (.object "java/lang/String")) :: ws) ({ frames := 2, cells := 2, slots := 4, locals := 29 } : Room)) (fun a U => a = #[(.ref aa), (.int (0 : Int32)), (.int (0 : Int32))] ∧ Z.Warmed39 U.vm ∧ U.heap = h0 ∧ CHv Z consts_1 U.vm h0) (fun _ _ _ _ _ => True) (fun _ U o U' => ∃ v L, o = .returned v ∧ Q_rm_sub1 Z G1 G3 aa bb kb nn bs h0 n0 v U'.heap U'.vm L ∧ ReturnedEndW U o U' L ({ frames := 2, cells := 2, slots := 4, locals := 29 } : Room).cells ({ frames := 2, cells := 2, slots := 4, locals := 29 } : Room).slots) := by
 refine MetFree.of_bodySF (plainFor_of_name pn_java_lang_String) hisR ?_
 intro p e s m args below meth c s₁ Bd hml0 hP hK
 obtain ⟨rfl, hZ, hh, hI⟩ := hP
 have hx := Bd.exec
 have hby := Bd.bytes
 have hml : c.maxLocals = 5 := hml0
 have hown : s.vm.findClass "java/lang/String" = some m.cls := findClass_of_methodNamed Bd.named
 have hnm := (name_of_methodNamed Bd.named Bd.method).1
 have X0 : Stand p l e ({ frames := 2, cells := 2, slots := 4, locals := 29 } : Room) (s.setVm s.vm) m #[(.ref aa), (.int (0 : Int32)), (.int (0 : Int32))] below meth c s₁ [] 0 0 := Stand.of_body Bd
 have e0 : s₁.heap = h0 := by rw [← hh, Bd.state]; rfl
 have N0 := Fr.nil n0
 have K00 : Keep h0 h0 [] := Keep.refl _ _
 have hS0 : s.Since s.vm s.heap.size := (State.WarmedH.refl s).since _
 have hk0 : s.heap.size ≤ h0.size := by rw [hh]; exact Nat.le_refl _
 have hkeep : ∀ (b : Addr) (cl : Cell), Z.heap[b]? = some cl → s.heap[b]? = some cl := by rw [hh]; exact Old0.2.2
 show Rch p e below s₁ (entryFrame m #[(.ref aa), (.int (0 : Int32)), (.int (0 : Int32))] 5) (FinW s (Q_rm_sub1 Z G1 G3 aa bb kb nn bs h0 n0) 2 4)
 refine Rch.cast (ef_rm_sub1 m G1 G3 aa bb kb nn bs) ?_
 have hEL := own_EW hw
 have Z0f := Nat.le_refl h0.size
 have N0f := Fr.nil h0.size
 have OldF := Old0.up Z0
 show Rch p e below s₁ (mkF m 0 #[.val (.ref aa), .val (.int 0), .val (.int 0), .unset, .unset] []) _
 refine w_aloadN (pc' := 1) X0 hx hby djdk42m92_0 rfl rfl rfl ?_
 obtain ⟨cq821, kq821, q821a, q821b, q821c⟩ := isOf hZ e0 f4
 obtain ⟨_, _, ⟨T821, L821, k821, n821⟩, -, X821, ⟨Lc821, hQ821, l821, y821, z821⟩, st821⟩ := X0.virtualBack hx (y := (⟨"java/lang/String", "length", "()I"⟩ : MethodName)) (z := (⟨"java/lang/String", "length", "()I"⟩ : MethodName)) hown (mvT hZ (wi hw 25 rfl)) (mvT hZ (wi hw 26 rfl)) (notFace_of_selects (args := #[]) (mvT hZ (wi hw 28 rfl))) (mvT hZ (wi hw 28 rfl)) (mvT hZ (wi hw 27 rfl)) (by decide) (backOf (W := 0) (rm_length l Z a0 hw [] G1 aa 0 bb kb nn (bs.map Value.int) (.int 0) h0 h0.size Z0f (O2) (P5) f5 (Or.inl rfl) f6 f7 f4 OldF) hZ (wi hw 29 rfl) (wi hw 9 rfl) (by decide) (by decide)) q821a q821c (g := (mkF m 1 #[.val (.ref aa), .val (.int 0), .val (.int 0), .unset, .unset] [(.ref aa)])) rfl (by rw [hml]; rfl) (Steps.refl _) (argsL := []) (rest := []) (lenOf pd___I rfl) rfl (by show 2 * 0 + _ ≤ _; exact Nat.le_of_eq rfl) (hb hby djdk42m92_1) (fun _ _ => ⟨rfl, e0, (by decide : 0 + 0 ≤ _), (by decide : 0 + 0 ≤ _)⟩)
 dsimp only [Pt.U, Pt.locs, Pt.cells, Pt.slots] at X821 l821 y821 z821 st821 hQ821
 subst l821 y821 z821
 obtain ⟨rfl, NQ821, K821⟩ := hQ821
 have N822 := Fr.app N0f NQ821
 refine Rch.st (fun _ k => st821.trans k) ?_
 show Rch p e below T821 (mkF m 4 #[.val (.ref aa), .val (.int 0), .val (.int 0), .unset, .unset] [(.int (nn >>> ((0 : Int32) &&& 31)))]) _
 have r823 : (nn >>> ((0 : Int32) &&& 31)) = nn := own_sh0 nn
 rw [r823]
 show Rch p e below T821 (mkF m 4 #[.val (.ref aa), .val (.int 0), .val (.int 0), .unset, .unset] [(.int nn)]) _
 refine w_istoreN (pc' := 5) (l' := #[.val (.ref aa), .val (.int 0), .val (.int 0), .val (.int nn), .unset]) X821 hx hby djdk42m92_4 rfl rfl ?_
 refine w_iloadN (pc' := 6) X821 hx hby djdk42m92_5 rfl rfl ?_
 refine w_iloadN (pc' := 7) X821 hx hby djdk42m92_6 rfl rfl ?_
 refine w_iloadN (pc' := 8) X821 hx hby djdk42m92_7 rfl rfl ?_
 obtain ⟨_, _, ⟨T824, L824, k824, n824⟩, -, X824, ⟨Lc824, hQ824, l824, y824, z824⟩, st824⟩ := Jvm.LawKit.callS X821 hx (y := (⟨"java/lang/String", "checkBoundsBeginEnd", "(III)V"⟩ : MethodName)) hown (mvT hZ (wi hw 88 rfl)) (mvT hZ (wi hw 89 rfl)) (mvT hZ (wi hw 9 rfl)) (mvT hZ (wi hw 90 rfl)) (by decide) (backOf (W := 0) (rm_cbe l Z a0 hw [] 0 nn G3 h0 h0.size Z0f (O4) (rG3) (by decide) (hle) OldF) hZ (wi hw 90 rfl) (wi hw 9 rfl) (by decide) (by decide)) (g := (mkF m 8 #[.val (.ref aa), .val (.int 0), .val (.int 0), .val (.int nn), .unset] [(.int nn), (.int 0), (.int 0)])) rfl (by rw [hml]; rfl) (argsL := [(.int 0), (.int 0), (.int nn)]) (rest := []) (lenOf pd__III_V rfl) rfl (by show 2 * 0 + _ ≤ _; exact Nat.le_of_eq rfl) (hb hby djdk42m92_8) (fun _ _ => ⟨rfl, K821, (by decide : 0 + 0 ≤ _), (by decide : 0 + 0 ≤ _)⟩)
 dsimp only [Pt.U, Pt.locs, Pt.cells, Pt.slots] at X824 l824 y824 z824 st824 hQ824
 subst l824 y824 z824
 obtain ⟨rfl, NQ824, K824⟩ := hQ824
 have N825 := Fr.app N822 NQ824
 refine Rch.st (fun _ k => st824 _ k) ?_
 show Rch p e below T824 (mkF m 11 #[.val (.ref aa), .val (.int 0), .val (.int 0), .val (.int nn), .unset] []) _
 refine w_iloadN (pc' := 12) X824 hx hby djdk42m92_11 rfl rfl ?_
 refine w_ifNo (pc' := 15) X824 hx hby djdk42m92_12 (XT.i0_ne_f (by decide)) rfl ?_
 refine w_iloadN (pc' := 16) X824 hx hby djdk42m92_15 rfl rfl ?_
 refine w_iloadN (pc' := 17) X824 hx hby djdk42m92_16 rfl rfl ?_
 refine w_icmpYes (pc' := 22) X824 hx hby djdk42m92_17 (XT.ii_ne_t (hne)) (by decide) ?_
 refine w_iloadN (pc' := 23) X824 hx hby djdk42m92_22 rfl rfl ?_
 refine w_iloadN (pc' := 24) X824 hx hby djdk42m92_23 rfl rfl ?_
 refine w_isub (pc' := 25) X824 hx hby djdk42m92_24 rfl ?_
 have r826 : ((0 : Int32) - (0 : Int32)) = (0 : Int32) := by decide
 rw [r826]
 show Rch p e below T824 (mkF m 25 #[.val (.ref aa), .val (.int 0), .val (.int 0), .val (.int nn), .unset] [(.int 0)]) _
 refine w_istore (pc' := 27) (l' := #[.val (.ref aa), .val (.int 0), .val (.int 0), .val (.int nn), .val (.int 0)]) X824 hx hby djdk42m92_25 rfl rfl ?_
 refine w_aloadN (pc' := 28) X824 hx hby djdk42m92_27 rfl rfl rfl ?_
 obtain ⟨cq827, kq827, q827a, q827b, q827c⟩ := isOf hZ K824 f4
 obtain ⟨_, _, ⟨T827, L827, k827, n827⟩, -, X827, ⟨Lc827, hQ827, l827, y827, z827⟩, st827⟩ := X824.virtualBack hx (y := (⟨"java/lang/String", "isLatin1", "()Z"⟩ : MethodName)) (z := (⟨"java/lang/String", "isLatin1", "()Z"⟩ : MethodName)) hown (mvT hZ (wi hw 43 rfl)) (mvT hZ (wi hw 44 rfl)) (notFace_of_selects (args := #[]) (mvT hZ (wi hw 46 rfl))) (mvT hZ (wi hw 46 rfl)) (mvT hZ (wi hw 45 rfl)) (by decide) (backOf (W := 0) (rm_isl l Z a0 hw [] G1 aa h0 h0.size Z0f (O2) (P5) f5 OldF) hZ (wi hw 47 rfl) (wi hw 9 rfl) (by decide) (by decide)) q827a q827c (g := (mkF m 28 #[.val (.ref aa), .val (.int 0), .val (.int 0), .val (.int nn), .val (.int 0)] [(.ref aa)])) rfl (by rw [hml]; rfl) (Steps.refl _) (argsL := []) (rest := []) (lenOf pd___Z rfl) rfl (by show 2 * 0 + _ ≤ _; exact Nat.le_of_eq rfl) (hb hby djdk42m92_28) (fun _ _ => ⟨rfl, K824, (by decide : 0 + 0 ≤ _), (by decide : 0 + 0 ≤ _)⟩)
 dsimp only [Pt.U, Pt.locs, Pt.cells, Pt.slots] at X827 l827 y827 z827 st827 hQ827
 subst l827 y827 z827
 obtain ⟨rfl, NQ827, K827⟩ := hQ827
 have N828 := Fr.app N825 NQ827
 refine Rch.st (fun _ k => st827.trans k) ?_
 show Rch p e below T827 (mkF m 31 #[.val (.ref aa), .val (.int 0), .val (.int 0), .val (.int nn), .val (.int 0)] [(.int 1)]) _
 refine w_ifNo (pc' := 34) X827 hx hby djdk42m92_31 (XT.i0_eq_f (by decide)) rfl ?_
 refine w_aloadN (pc' := 35) X827 hx hby djdk42m92_34 rfl rfl rfl ?_
 obtain ⟨T829, X829, e829, st829⟩ := getF X827 hx hZ hown (host := "") (Or.inl (wi hw 30 rfl)) Via.refl K827 f6 (g := (mkF m 35 #[.val (.ref aa), .val (.int 0), .val (.int 0), .val (.int nn), .val (.int 0)] [(.ref aa)])) rfl rfl (hb hby djdk42m92_35)
 refine Rch.st (fun _ k => st829 _ k) ?_
 show Rch p e below T829 (mkF m 38 #[.val (.ref aa), .val (.int 0), .val (.int 0), .val (.int nn), .val (.int 0)] [(.ref bb)]) _
 refine w_iloadN (pc' := 39) X829 hx hby djdk42m92_38 rfl rfl ?_
 refine w_iload (pc' := 41) X829 hx hby djdk42m92_39 rfl rfl ?_
 obtain ⟨_, _, ⟨T830, L830, k830, n830⟩, -, X830, hSx830, hgx830, ⟨Lc830, hQ830, l830, y830, z830⟩, st830⟩ := callSS X829 hx (y := (⟨"java/lang/StringLatin1", "newString", "([BII)Ljava/lang/String;"⟩ : MethodName)) hown (mvT hZ (wi hw 96 rfl)) (mvT hZ (wi hw 97 rfl)) (mvT hZ (wi hw 50 rfl)) (mvT hZ (wi hw 98 rfl)) (by decide) (backOfV (PV := fun vm => CHv Z consts_1 vm h0) (W := 0) (rm_ns0 l Z a0 hw [] bb kb nn bs h0 h0.size Z0f OldF) hZ (fun vm hW => own_chv (s := s) (vm0 := s.vm) hZ hEL hW hI) (wi hw 98 rfl) (wi hw 50 rfl) (by decide) (by decide)) (g := (mkF m 41 #[.val (.ref aa), .val (.int 0), .val (.int 0), .val (.int nn), .val (.int 0)] [(.int 0), (.int 0), (.ref bb)])) rfl (by rw [hml]; rfl) (argsL := [(.ref bb), (.int 0), (.int 0)]) (rest := []) (lenOf pd___BII_Ljava_lang_String_ rfl) rfl (by show 2 * 0 + _ ≤ _; exact Nat.le_of_eq rfl) (hb hby djdk42m92_41) (fun _ _ => ⟨rfl, e829, (by decide : 0 + 2 ≤ _), (by decide : 0 + 4 ≤ _)⟩)
 dsimp only [Pt.U, Pt.locs, Pt.cells, Pt.slots] at X830 l830 y830 z830 st830 hQ830 hSx830 hgx830
 subst l830 y830 z830
 have hS830 := foldS hS0 (by rw [e829]; exact hk0) hSx830 hgx830
 have hk830 : T830.heap.size ≤ T830.heap.size := Nat.le_refl _
 have hZ830 : Z.Warmed39 (s.setVm T830.vm).vm := State.Warmed39.trans (t := s.setVm s.vm) hZ hSx830.1
 have hown830 : (s.setVm T830.vm).vm.findClass "java/lang/String" = some m.cls := by rw [show (s.setVm T830.vm).vm = T830.vm from rfl, hSx830.1.alike.findClass]; exact hown
 have X830w : Stand p l e ({ frames := 2, cells := 2, slots := 4, locals := 29 } : Room) (s.setVm T830.vm) m _ below meth c T830 _ _ _ := X830
 obtain ⟨ra_830, t_830, kt_830, rfl, NQ830, K830, fq830_0, fq830_1, fq830_2, fq830_3, IQ830⟩ := hQ830
 have N831 := Fr.app N828 NQ830
 have Kp837 : Keep h0 T830.heap [] := K00.trans K830 all0
 refine Rch.st (fun _ k => st830.trans k) ?_
 show Rch p e below T830 (mkF m 44 #[.val (.ref aa), .val (.int 0), .val (.int 0), .val (.int nn), .val (.int 0)] [(.ref ra_830)]) _
 refine w_goto (pc' := 57) X830w hx hby djdk42m92_44 (by decide) ?_
 exact Rch.retVW X830w hx hS830 (by rw [(rfl : T830.heap = T830.heap)]; exact hk830) Bd.returns rfl (Or.inr (Or.inr (Or.inr (Or.inr ⟨rfl, rfl, rfl⟩)))) (hb hby djdk42m92_57) (by rw [(rfl : T830.heap = T830.heap)]; exact ⟨ra_830, t_830, kt_830, rfl, (own_Fr Z0 N831), Kp837, fq830_0, fq830_1, fq830_2, fq830_3, own_chv (s := s) (vm0 := T830.vm) hZ830 hEL X830w.warmed IQ830⟩) (by decide) (by decide)

theorem dprog32m14_0 : decode prog_32_method_14_code 0 = .ok (.aload_n 0, 1) := by decide +kernel
theorem dprog32m14_1 : decode prog_32_method_14_code 1 = .ok (.bipush 47, 2) := by decide +kernel
theorem dprog32m14_3 : decode prog_32_method_14_code 3 = .ok (.invokevirtual 252, 3) := by decide +kernel
theorem dprog32m14_6 : decode prog_32_method_14_code 6 = .ok (.istore_n 1, 1) := by decide +kernel
theorem dprog32m14_7 : decode prog_32_method_14_code 7 = .ok (.iload_n 1, 1) := by decide +kernel
theorem dprog32m14_8 : decode prog_32_method_14_code 8 = .ok (.ifCond .ge 8, 3) := by decide +kernel
theorem dprog32m14_11 : decode prog_32_method_14_code 11 = .ok (.ldc 234, 2) := by decide +kernel
theorem dprog32m14_13 : decode prog_32_method_14_code 13 = .ok (.goto 9, 3) := by decide +kernel
theorem dprog32m14_16 : decode prog_32_method_14_code 16 = .ok (.aload_n 0, 1) := by decide +kernel
theorem dprog32m14_17 : decode prog_32_method_14_code 17 = .ok (.iconst 0, 1) := by decide +kernel
theorem dprog32m14_18 : decode prog_32_method_14_code 18 = .ok (.iload_n 1, 1) := by decide +kernel
theorem dprog32m14_19 : decode prog_32_method_14_code 19 = .ok (.invokevirtual 256, 3) := by decide +kernel
theorem dprog32m14_22 : decode prog_32_method_14_code 22 = .ok (.areturn, 1) := by decide +kernel
theorem pn_com_example_fascicle_fascicle_Entries : plainName "com/example/fascicle/fascicle/Entries" = true := by first | (simp [plainName, overriddenIn]; done) | decide +kernel
theorem ef_rm_di_neg (m : MethodId) (G1 : Int32) (G3 : Value) (aa : Addr) (bb : Addr) (kb : ClassId) (nn : Int32) (bs : List Int32)  : entryFrame m #[(.ref aa)] 2 = mkF m 0 #[.val (.ref aa), .unset] [] := by  first | (simp [entryFrame, mkF, argsToLocals, Value.category, maxLocals]; done) | rfl
def Q_rm_di_neg (Z : State) (G1 : Int32) (G3 : Value) (aa : Addr) (bb : Addr) (kb : ClassId) (nn : Int32) (bs : List Int32) (h0 : Heap) (n0 : Nat) (v : Option Value) (h : Heap) (vm : Vm) (L : List Loc) : Prop := ∃ (ra : Addr) (t : Addr) (kt : ClassId), (v = some (.ref ra)) ∧ (Fr n0 L) ∧ (Keep h0 h []) ∧ (Exa Z h ra "java/lang/String") ∧ (Fld Z h ra "java/lang/String" "coder" "B" (.int (0 : Int32))) ∧ (Fld Z h ra "java/lang/String" "value" "[B" (.ref t)) ∧ (Arv Z h t kt .byte (0 : Int32) [] (.int (0 : Int32))) ∧ (CHv Z consts_1 vm h)
theorem pd__I_I : parseMethodDescriptor "(I)I" = some ⟨[.int], (some .int)⟩ := by decide +kernel
set_option maxRecDepth 65536 in
set_option maxHeartbeats 40000000 in
theorem rm_di_neg (l : Launch) (Z : State) (a0 : Array Value) (hw : ∀ d ∈ tables_1, d.before a0 Z = true) (ws : List Jvm.Cond) (G1 : Int32) (G3 : Value) (aa : Addr) (bb : Addr) (kb : ClassId) (nn : Int32) (bs : List Int32) (h0 : Heap) (n0 : Nat) (Z0 : n0 ≤ h0.size) (O2 : Sta Z Z.heap "java/lang/String" "COMPACT_STRINGS" "Z" (.int G1)) (P5 : ¬ G1 = 0) (O4 : Sta Z Z.heap "jdk/internal/util/Preconditions" "SIOOBE_FORMATTER" "Ljava/util/function/BiFunction;" G3) (rG3 : G3.isRef = true) (f4 : Exa Z h0 aa "java/lang/String") (f5 : Fld Z h0 aa "java/lang/String" "coder" "B" (.int (0 : Int32))) (f6 : Fld Z h0 aa "java/lang/String" "value" "[B" (.ref bb)) (f7 : Arv Z h0 bb kb .byte nn (bs.map Value.int) (.int (0 : Int32))) (hnn : ¬ nn < 0) (hres : own_lst bs nn.toNatClampNeg = (-1 : Int32)) (Old0 : OldL Z n0 h0) :
    MetFree l (⟨"com/example/fascicle/fascicle/Entries", "directoryOf", "(Ljava/lang/String;)Ljava/lang/String;"⟩ : MethodName) (head1 (Jvm.Cond.code (⟨"com/example/fascicle/fascicle/Entries", "directoryOf", "(Ljava/lang/String;)Ljava/lang/String;"⟩ : MethodName) prog_32_method_14_code 2 (some (.object "java/lang/String")) :: ws) ({ frames := 4, cells := 2, slots := 4, locals := 55 } : Room)) (fun a U => a = #[(.ref aa)] ∧ Z.Warmed39 U.vm ∧ U.heap = h0 ∧ CHv Z consts_1 U.vm h0) (fun _ _ _ _ _ => True) (fun _ U o U' => ∃ v L, o = .returned v ∧ Q_rm_di_neg Z G1 G3 aa bb kb nn bs h0 n0 v U'.heap U'.vm L ∧ ReturnedEndW U o U' L ({ frames := 4, cells := 2, slots := 4, locals := 55 } : Room).cells ({ frames := 4, cells := 2, slots := 4, locals := 55 } : Room).slots) := by
 refine MetFree.of_bodySF (plainFor_of_name pn_com_example_fascicle_fascicle_Entries) hisR ?_
 intro p e s m args below meth c s₁ Bd hml0 hP hK
 obtain ⟨rfl, hZ, hh, hI⟩ := hP
 have hx := Bd.exec
 have hby := Bd.bytes
 have hml : c.maxLocals = 2 := hml0
 have hown : s.vm.findClass "com/example/fascicle/fascicle/Entries" = some m.cls := findClass_of_methodNamed Bd.named
 have hnm := (name_of_methodNamed Bd.named Bd.method).1
 have X0 : Stand p l e ({ frames := 4, cells := 2, slots := 4, locals := 55 } : Room) (s.setVm s.vm) m #[(.ref aa)] below meth c s₁ [] 0 0 := Stand.of_body Bd
 have e0 : s₁.heap = h0 := by rw [← hh, Bd.state]; rfl
 have N0 := Fr.nil n0
 have K00 : Keep h0 h0 [] := Keep.refl _ _
 have hS0 : s.Since s.vm s.heap.size := (State.WarmedH.refl s).since _
 have hk0 : s.heap.size ≤ h0.size := by rw [hh]; exact Nat.le_refl _
 have hkeep : ∀ (b : Addr) (cl : Cell), Z.heap[b]? = some cl → s.heap[b]? = some cl := by rw [hh]; exact Old0.2.2
 show Rch p e below s₁ (entryFrame m #[(.ref aa)] 2) (FinW s (Q_rm_di_neg Z G1 G3 aa bb kb nn bs h0 n0) 2 4)
 refine Rch.cast (ef_rm_di_neg m G1 G3 aa bb kb nn bs) ?_
 have hEL := own_EW hw
 have Z0f := Nat.le_refl h0.size
 have N0f := Fr.nil h0.size
 have OldF := Old0.up Z0
 show Rch p e below s₁ (mkF m 0 #[.val (.ref aa), .unset] []) _
 refine w_aloadN (pc' := 1) X0 hx hby dprog32m14_0 rfl rfl rfl ?_
 refine w_bipush (pc' := 3) (v := 47) X0 hx hby dprog32m14_1 rfl rfl ?_
 obtain ⟨cq839, kq839, q839a, q839b, q839c⟩ := isOf hZ e0 f4
 obtain ⟨_, _, ⟨T839, L839, k839, n839⟩, -, X839, ⟨Lc839, hQ839, l839, y839, z839⟩, st839⟩ := X0.virtualBack hx (y := (⟨"java/lang/String", "lastIndexOf", "(I)I"⟩ : MethodName)) (z := (⟨"java/lang/String", "lastIndexOf", "(I)I"⟩ : MethodName)) hown (mvT hZ (wi hw 20 rfl)) (mvT hZ (wi hw 21 rfl)) (notFace_of_selects (args := #[]) (mvT hZ (wi hw 23 rfl))) (mvT hZ (wi hw 23 rfl)) (mvT hZ (wi hw 22 rfl)) (by decide) (backOf (W := 0) (rm_l1 l Z a0 hw [] G1 aa bb kb nn bs h0 h0.size Z0f (O2) (P5) f4 f5 f6 f7 (hnn) OldF) hZ (wi hw 24 rfl) (wi hw 9 rfl) (by decide) (by decide)) q839a q839c (g := (mkF m 3 #[.val (.ref aa), .unset] [(.int 47), (.ref aa)])) rfl (by rw [hml]; rfl) (Steps.refl _) (argsL := [(.int 47)]) (rest := []) (lenOf pd__I_I rfl) rfl (by show 2 * 0 + _ ≤ _; exact Nat.le_of_eq rfl) (hb hby dprog32m14_3) (fun _ _ => ⟨rfl, e0, (by decide : 0 + 0 ≤ _), (by decide : 0 + 0 ≤ _)⟩)
 dsimp only [Pt.U, Pt.locs, Pt.cells, Pt.slots] at X839 l839 y839 z839 st839 hQ839
 subst l839 y839 z839
 obtain ⟨rfl, NQ839, K839⟩ := hQ839
 have N840 := Fr.app N0f NQ839
 refine Rch.st (fun _ k => st839.trans k) ?_
 show Rch p e below T839 (mkF m 6 #[.val (.ref aa), .unset] [(.int (own_lst bs nn.toNatClampNeg))]) _
 have r841 : (own_lst bs nn.toNatClampNeg) = (-1 : Int32) := hres
 rw [r841]
 show Rch p e below T839 (mkF m 6 #[.val (.ref aa), .unset] [(.int (-1 : Int32))]) _
 refine w_istoreN (pc' := 7) (l' := #[.val (.ref aa), .val (.int (-1 : Int32))]) X839 hx hby dprog32m14_6 rfl rfl ?_
 refine w_iloadN (pc' := 8) X839 hx hby dprog32m14_7 rfl rfl ?_
 refine w_ifNo (pc' := 11) X839 hx hby dprog32m14_8 (XT.i0_ge_f (by decide)) rfl ?_
 obtain ⟨a842, T842, h842, k842, b842, kc842, X842, e842, E842, hS842, hk842, hZ842, hown842, Ex842, Fc842, Fv842, Va842, lt842, lu842, C842, Li842, sf842, st842⟩ := ldcCH (s := s) (vm0 := s.vm) X839 hx hZ hown (wi hw 59 rfl) (fun d hd => hw d ((by decide +kernel : ∀ d ∈ Bundle.stringAtoms, d ∈ tables_1) d hd)) K839 hS0 hk0 hEL (List.mem_of_getElem? (i := 0) rfl) hI (vs := []) (z := (0 : Int32)) ⟨by decide, by decide⟩ (by decide) (by decide) (g := (mkF m 11 #[.val (.ref aa), .val (.int (-1 : Int32))] [])) rfl (hb hby dprog32m14_11) (n := 0) (by decide) (by decide) (by decide) (by decide)
 have CH844 := CHv.ext E842 hI
 have Kp851 : Keep h0 h842 [] := K00.ext E842
 refine Rch.st (fun _ k => st842 _ k) ?_
 show Rch p e below T842 (mkF m 13 #[.val (.ref aa), .val (.int (-1 : Int32))] [(.ref a842)]) _
 refine w_goto (pc' := 22) X842 hx hby dprog32m14_13 (by decide) ?_
 exact Rch.retVW X842 hx hS842 (by rw [e842]; exact hk842) Bd.returns rfl (Or.inr (Or.inr (Or.inr (Or.inr ⟨rfl, rfl, rfl⟩)))) (hb hby dprog32m14_22) (by rw [e842]; exact ⟨a842, b842, kc842, rfl, (own_Fr Z0 N840), Kp851, Ex842, Fc842, Fv842, Va842, own_chv (s := s) (vm0 := T842.vm) hZ842 hEL X842.warmed C842.1⟩) (by decide) (by decide)

theorem ef_rm_di_zero (m : MethodId) (G1 : Int32) (G3 : Value) (aa : Addr) (bb : Addr) (kb : ClassId) (nn : Int32) (bs : List Int32)  : entryFrame m #[(.ref aa)] 2 = mkF m 0 #[.val (.ref aa), .unset] [] := by  first | (simp [entryFrame, mkF, argsToLocals, Value.category, maxLocals]; done) | rfl
def Q_rm_di_zero (Z : State) (G1 : Int32) (G3 : Value) (aa : Addr) (bb : Addr) (kb : ClassId) (nn : Int32) (bs : List Int32) (h0 : Heap) (n0 : Nat) (v : Option Value) (h : Heap) (vm : Vm) (L : List Loc) : Prop := ∃ (ra : Addr) (t : Addr) (kt : ClassId), (v = some (.ref ra)) ∧ (Fr n0 L) ∧ (Keep h0 h []) ∧ (Exa Z h ra "java/lang/String") ∧ (Fld Z h ra "java/lang/String" "coder" "B" (.int (0 : Int32))) ∧ (Fld Z h ra "java/lang/String" "value" "[B" (.ref t)) ∧ (Arv Z h t kt .byte (0 : Int32) [] (.int (0 : Int32))) ∧ (CHv Z consts_1 vm h)
theorem pd__II_Ljava_lang_String_ : parseMethodDescriptor "(II)Ljava/lang/String;" = some ⟨[.int, .int], (some (.object "java/lang/String"))⟩ := by decide +kernel
set_option maxRecDepth 65536 in
set_option maxHeartbeats 40000000 in
theorem rm_di_zero (l : Launch) (Z : State) (a0 : Array Value) (hw : ∀ d ∈ tables_1, d.before a0 Z = true) (ws : List Jvm.Cond) (G1 : Int32) (G3 : Value) (aa : Addr) (bb : Addr) (kb : ClassId) (nn : Int32) (bs : List Int32) (h0 : Heap) (n0 : Nat) (Z0 : n0 ≤ h0.size) (O2 : Sta Z Z.heap "java/lang/String" "COMPACT_STRINGS" "Z" (.int G1)) (P5 : ¬ G1 = 0) (O4 : Sta Z Z.heap "jdk/internal/util/Preconditions" "SIOOBE_FORMATTER" "Ljava/util/function/BiFunction;" G3) (rG3 : G3.isRef = true) (f4 : Exa Z h0 aa "java/lang/String") (f5 : Fld Z h0 aa "java/lang/String" "coder" "B" (.int (0 : Int32))) (f6 : Fld Z h0 aa "java/lang/String" "value" "[B" (.ref bb)) (f7 : Arv Z h0 bb kb .byte nn (bs.map Value.int) (.int (0 : Int32))) (hnn : ¬ nn < 0) (hres : own_lst bs nn.toNatClampNeg = (0 : Int32)) (hle : ¬ nn < (0 : Int32)) (hne : ¬ (0 : Int32) = nn) (Old0 : OldL Z n0 h0) :
    MetFree l (⟨"com/example/fascicle/fascicle/Entries", "directoryOf", "(Ljava/lang/String;)Ljava/lang/String;"⟩ : MethodName) (head1 (Jvm.Cond.code (⟨"com/example/fascicle/fascicle/Entries", "directoryOf", "(Ljava/lang/String;)Ljava/lang/String;"⟩ : MethodName) prog_32_method_14_code 2 (some (.object "java/lang/String")) :: ws) ({ frames := 4, cells := 2, slots := 4, locals := 55 } : Room)) (fun a U => a = #[(.ref aa)] ∧ Z.Warmed39 U.vm ∧ U.heap = h0 ∧ CHv Z consts_1 U.vm h0) (fun _ _ _ _ _ => True) (fun _ U o U' => ∃ v L, o = .returned v ∧ Q_rm_di_zero Z G1 G3 aa bb kb nn bs h0 n0 v U'.heap U'.vm L ∧ ReturnedEndW U o U' L ({ frames := 4, cells := 2, slots := 4, locals := 55 } : Room).cells ({ frames := 4, cells := 2, slots := 4, locals := 55 } : Room).slots) := by
 refine MetFree.of_bodySF (plainFor_of_name pn_com_example_fascicle_fascicle_Entries) hisR ?_
 intro p e s m args below meth c s₁ Bd hml0 hP hK
 obtain ⟨rfl, hZ, hh, hI⟩ := hP
 have hx := Bd.exec
 have hby := Bd.bytes
 have hml : c.maxLocals = 2 := hml0
 have hown : s.vm.findClass "com/example/fascicle/fascicle/Entries" = some m.cls := findClass_of_methodNamed Bd.named
 have hnm := (name_of_methodNamed Bd.named Bd.method).1
 have X0 : Stand p l e ({ frames := 4, cells := 2, slots := 4, locals := 55 } : Room) (s.setVm s.vm) m #[(.ref aa)] below meth c s₁ [] 0 0 := Stand.of_body Bd
 have e0 : s₁.heap = h0 := by rw [← hh, Bd.state]; rfl
 have N0 := Fr.nil n0
 have K00 : Keep h0 h0 [] := Keep.refl _ _
 have hS0 : s.Since s.vm s.heap.size := (State.WarmedH.refl s).since _
 have hk0 : s.heap.size ≤ h0.size := by rw [hh]; exact Nat.le_refl _
 have hkeep : ∀ (b : Addr) (cl : Cell), Z.heap[b]? = some cl → s.heap[b]? = some cl := by rw [hh]; exact Old0.2.2
 show Rch p e below s₁ (entryFrame m #[(.ref aa)] 2) (FinW s (Q_rm_di_zero Z G1 G3 aa bb kb nn bs h0 n0) 2 4)
 refine Rch.cast (ef_rm_di_zero m G1 G3 aa bb kb nn bs) ?_
 have hEL := own_EW hw
 have Z0f := Nat.le_refl h0.size
 have N0f := Fr.nil h0.size
 have OldF := Old0.up Z0
 show Rch p e below s₁ (mkF m 0 #[.val (.ref aa), .unset] []) _
 refine w_aloadN (pc' := 1) X0 hx hby dprog32m14_0 rfl rfl rfl ?_
 refine w_bipush (pc' := 3) (v := 47) X0 hx hby dprog32m14_1 rfl rfl ?_
 obtain ⟨cq852, kq852, q852a, q852b, q852c⟩ := isOf hZ e0 f4
 obtain ⟨_, _, ⟨T852, L852, k852, n852⟩, -, X852, ⟨Lc852, hQ852, l852, y852, z852⟩, st852⟩ := X0.virtualBack hx (y := (⟨"java/lang/String", "lastIndexOf", "(I)I"⟩ : MethodName)) (z := (⟨"java/lang/String", "lastIndexOf", "(I)I"⟩ : MethodName)) hown (mvT hZ (wi hw 20 rfl)) (mvT hZ (wi hw 21 rfl)) (notFace_of_selects (args := #[]) (mvT hZ (wi hw 23 rfl))) (mvT hZ (wi hw 23 rfl)) (mvT hZ (wi hw 22 rfl)) (by decide) (backOf (W := 0) (rm_l1 l Z a0 hw [] G1 aa bb kb nn bs h0 h0.size Z0f (O2) (P5) f4 f5 f6 f7 (hnn) OldF) hZ (wi hw 24 rfl) (wi hw 9 rfl) (by decide) (by decide)) q852a q852c (g := (mkF m 3 #[.val (.ref aa), .unset] [(.int 47), (.ref aa)])) rfl (by rw [hml]; rfl) (Steps.refl _) (argsL := [(.int 47)]) (rest := []) (lenOf pd__I_I rfl) rfl (by show 2 * 0 + _ ≤ _; exact Nat.le_of_eq rfl) (hb hby dprog32m14_3) (fun _ _ => ⟨rfl, e0, (by decide : 0 + 0 ≤ _), (by decide : 0 + 0 ≤ _)⟩)
 dsimp only [Pt.U, Pt.locs, Pt.cells, Pt.slots] at X852 l852 y852 z852 st852 hQ852
 subst l852 y852 z852
 obtain ⟨rfl, NQ852, K852⟩ := hQ852
 have N853 := Fr.app N0f NQ852
 refine Rch.st (fun _ k => st852.trans k) ?_
 show Rch p e below T852 (mkF m 6 #[.val (.ref aa), .unset] [(.int (own_lst bs nn.toNatClampNeg))]) _
 have r854 : (own_lst bs nn.toNatClampNeg) = (0 : Int32) := hres
 rw [r854]
 show Rch p e below T852 (mkF m 6 #[.val (.ref aa), .unset] [(.int 0)]) _
 refine w_istoreN (pc' := 7) (l' := #[.val (.ref aa), .val (.int 0)]) X852 hx hby dprog32m14_6 rfl rfl ?_
 refine w_iloadN (pc' := 8) X852 hx hby dprog32m14_7 rfl rfl ?_
 refine w_ifYes (pc' := 16) X852 hx hby dprog32m14_8 (XT.i0_ge_t (by decide)) (by decide) ?_
 refine w_aloadN (pc' := 17) X852 hx hby dprog32m14_16 rfl rfl rfl ?_
 refine w_iconst (pc' := 18) (v := 0) X852 hx hby dprog32m14_17 rfl rfl ?_
 refine w_iloadN (pc' := 19) X852 hx hby dprog32m14_18 rfl rfl ?_
 obtain ⟨cq855, kq855, q855a, q855b, q855c⟩ := isOf hZ K852 f4
 obtain ⟨_, _, ⟨T855, L855, k855, n855⟩, -, X855, hSx855, hgx855, ⟨Lc855, hQ855, l855, y855, z855⟩, st855⟩ := X852.virtualBackS hx (y := (⟨"java/lang/String", "substring", "(II)Ljava/lang/String;"⟩ : MethodName)) (z := (⟨"java/lang/String", "substring", "(II)Ljava/lang/String;"⟩ : MethodName)) hown (mvT hZ (wi hw 83 rfl)) (mvT hZ (wi hw 84 rfl)) (notFace_of_selects (args := #[]) (mvT hZ (wi hw 86 rfl))) (mvT hZ (wi hw 86 rfl)) (mvT hZ (wi hw 85 rfl)) (by decide) (backOfV (PV := fun vm => CHv Z consts_1 vm h0) (W := 0) (rm_sub1 l Z a0 hw [] G1 G3 aa bb kb nn bs h0 h0.size Z0f (O2) (P5) (O4) (rG3) f4 f5 f6 f7 (hle) (hne) OldF) hZ (fun vm hW => own_chv (s := s) (vm0 := s.vm) hZ hEL hW hI) (wi hw 87 rfl) (wi hw 9 rfl) (by decide) (by decide)) q855a q855c (g := (mkF m 19 #[.val (.ref aa), .val (.int 0)] [(.int 0), (.int 0), (.ref aa)])) rfl (by rw [hml]; rfl) (Steps.refl _) (argsL := [(.int 0), (.int 0)]) (rest := []) (lenOf pd__II_Ljava_lang_String_ rfl) rfl (by show 2 * 0 + _ ≤ _; exact Nat.le_of_eq rfl) (hb hby dprog32m14_19) (fun _ _ => ⟨rfl, K852, (by decide : 0 + 2 ≤ _), (by decide : 0 + 4 ≤ _)⟩)
 dsimp only [Pt.U, Pt.locs, Pt.cells, Pt.slots] at X855 l855 y855 z855 st855 hQ855 hSx855 hgx855
 subst l855 y855 z855
 have hS855 := foldS hS0 (by rw [K852]; exact hk0) hSx855 hgx855
 have hk855 : T855.heap.size ≤ T855.heap.size := Nat.le_refl _
 have hZ855 : Z.Warmed39 (s.setVm T855.vm).vm := State.Warmed39.trans (t := s.setVm s.vm) hZ hSx855.1
 have hown855 : (s.setVm T855.vm).vm.findClass "com/example/fascicle/fascicle/Entries" = some m.cls := by rw [show (s.setVm T855.vm).vm = T855.vm from rfl, hSx855.1.alike.findClass]; exact hown
 have X855w : Stand p l e ({ frames := 4, cells := 2, slots := 4, locals := 55 } : Room) (s.setVm T855.vm) m _ below meth c T855 _ _ _ := X855
 obtain ⟨ra_855, t_855, kt_855, rfl, NQ855, K855, fq855_0, fq855_1, fq855_2, fq855_3, IQ855⟩ := hQ855
 have N856 := Fr.app N853 NQ855
 have Kp862 : Keep h0 T855.heap [] := K00.trans K855 all0
 refine Rch.st (fun _ k => st855.trans k) ?_
 show Rch p e below T855 (mkF m 22 #[.val (.ref aa), .val (.int 0)] [(.ref ra_855)]) _
 exact Rch.retVW X855w hx hS855 (by rw [(rfl : T855.heap = T855.heap)]; exact hk855) Bd.returns rfl (Or.inr (Or.inr (Or.inr (Or.inr ⟨rfl, rfl, rfl⟩)))) (hb hby dprog32m14_22) (by rw [(rfl : T855.heap = T855.heap)]; exact ⟨ra_855, t_855, kt_855, rfl, (own_Fr Z0 N856), Kp862, fq855_0, fq855_1, fq855_2, fq855_3, own_chv (s := s) (vm0 := T855.vm) hZ855 hEL X855w.warmed IQ855⟩) (by decide) (by decide)

theorem ef_rm_di_pos (m : MethodId) (G1 : Int32) (G3 : Value) (aa : Addr) (bb : Addr) (kb : ClassId) (nn : Int32) (bs : List Int32) (jj : Int32)  : entryFrame m #[(.ref aa)] 2 = mkF m 0 #[.val (.ref aa), .unset] [] := by  first | (simp [entryFrame, mkF, argsToLocals, Value.category, maxLocals]; done) | rfl
def Q_rm_di_pos (Z : State) (G1 : Int32) (G3 : Value) (aa : Addr) (bb : Addr) (kb : ClassId) (nn : Int32) (bs : List Int32) (jj : Int32) (h0 : Heap) (n0 : Nat) (v : Option Value) (h : Heap) (L : List Loc) : Prop := ∃ (ra : Addr) (t : Addr) (kt : ClassId), (v = some (.ref ra)) ∧ (Fr n0 L) ∧ (Keep h0 h []) ∧ (h0.size ≤ ra) ∧ (h0.size ≤ t) ∧ (Exa Z h ra "java/lang/String") ∧ (Fld Z h ra "java/lang/String" "coder" "B" (.int (0 : Int32))) ∧ (Fld Z h ra "java/lang/String" "value" "[B" (.ref t)) ∧ (Arv Z h t kt .byte jj (own_take (bs.map Value.int) (.int (0 : Int32)) jj.toNatClampNeg) (.int (0 : Int32)))
set_option maxRecDepth 65536 in
set_option maxHeartbeats 40000000 in
theorem rm_di_pos (l : Launch) (Z : State) (a0 : Array Value) (hw : ∀ d ∈ tables_1, d.before a0 Z = true) (ws : List Jvm.Cond) (G1 : Int32) (G3 : Value) (aa : Addr) (bb : Addr) (kb : ClassId) (nn : Int32) (bs : List Int32) (jj : Int32) (h0 : Heap) (n0 : Nat) (Z0 : n0 ≤ h0.size) (O2 : Sta Z Z.heap "java/lang/String" "COMPACT_STRINGS" "Z" (.int G1)) (P5 : ¬ G1 = 0) (O4 : Sta Z Z.heap "jdk/internal/util/Preconditions" "SIOOBE_FORMATTER" "Ljava/util/function/BiFunction;" G3) (rG3 : G3.isRef = true) (f4 : Exa Z h0 aa "java/lang/String") (f5 : Fld Z h0 aa "java/lang/String" "coder" "B" (.int (0 : Int32))) (f6 : Fld Z h0 aa "java/lang/String" "value" "[B" (.ref bb)) (f7 : Arv Z h0 bb kb .byte nn (bs.map Value.int) (.int (0 : Int32))) (hnn : ¬ nn < 0) (hres : own_lst bs nn.toNatClampNeg = jj) (hz0 : ¬ jj < 0) (hc8 : jj.toNatClampNeg ≤ 8) (hmn : own_min32 nn jj = jj) (hlt : jj.toNatClampNeg ≤ nn.toNatClampNeg) (hne : ¬ jj = nn) (hle : ¬ nn < jj) (hjz : ¬ jj = 0) (Old0 : OldL Z n0 h0) :
    MetFree l (⟨"com/example/fascicle/fascicle/Entries", "directoryOf", "(Ljava/lang/String;)Ljava/lang/String;"⟩ : MethodName) (head1 (Jvm.Cond.code (⟨"com/example/fascicle/fascicle/Entries", "directoryOf", "(Ljava/lang/String;)Ljava/lang/String;"⟩ : MethodName) prog_32_method_14_code 2 (some (.object "java/lang/String")) :: ws) ({ frames := 5, cells := 2, slots := 12, locals := 80 } : Room)) (fun a U => a = #[(.ref aa)] ∧ Z.Warmed39 U.vm ∧ U.heap = h0) (fun _ _ _ _ _ => True) (fun _ U o U' => ∃ v L, o = .returned v ∧ Q_rm_di_pos Z G1 G3 aa bb kb nn bs jj h0 n0 v U'.heap L ∧ FrameEnd U o U' L ({ frames := 5, cells := 2, slots := 12, locals := 80 } : Room).cells ({ frames := 5, cells := 2, slots := 12, locals := 80 } : Room).slots) := by
 refine MetFree.of_bodySF (plainFor_of_name pn_com_example_fascicle_fascicle_Entries) hisR ?_
 intro p e s m args below meth c s₁ Bd hml0 hP hK
 obtain ⟨rfl, hZ, hh⟩ := hP
 have hx := Bd.exec
 have hby := Bd.bytes
 have hml : c.maxLocals = 2 := hml0
 have hown : s.vm.findClass "com/example/fascicle/fascicle/Entries" = some m.cls := findClass_of_methodNamed Bd.named
 have hnm := (name_of_methodNamed Bd.named Bd.method).1
 have X0 : Stand p l e ({ frames := 5, cells := 2, slots := 12, locals := 80 } : Room) s m #[(.ref aa)] below meth c s₁ [] 0 0 := Stand.of_body Bd
 have e0 : s₁.heap = h0 := by rw [← hh, Bd.state]; rfl
 have N0 := Fr.nil n0
 have K00 : Keep h0 h0 [] := Keep.refl _ _
 show Rch p e below s₁ (entryFrame m #[(.ref aa)] 2) (FinP s (Q_rm_di_pos Z G1 G3 aa bb kb nn bs jj h0 n0) 2 12)
 refine Rch.cast (ef_rm_di_pos m G1 G3 aa bb kb nn bs jj) ?_
 show Rch p e below s₁ (mkF m 0 #[.val (.ref aa), .unset] []) _
 refine w_aloadN (pc' := 1) X0 hx hby dprog32m14_0 rfl rfl rfl ?_
 refine w_bipush (pc' := 3) (v := 47) X0 hx hby dprog32m14_1 rfl rfl ?_
 obtain ⟨cq864, kq864, q864a, q864b, q864c⟩ := isOf hZ e0 f4
 obtain ⟨_, _, ⟨T864, L864, k864, n864⟩, -, X864, ⟨Lc864, hQ864, l864, y864, z864⟩, st864⟩ := X0.virtualBack hx (y := (⟨"java/lang/String", "lastIndexOf", "(I)I"⟩ : MethodName)) (z := (⟨"java/lang/String", "lastIndexOf", "(I)I"⟩ : MethodName)) hown (mvT hZ (wi hw 20 rfl)) (mvT hZ (wi hw 21 rfl)) (notFace_of_selects (args := #[]) (mvT hZ (wi hw 23 rfl))) (mvT hZ (wi hw 23 rfl)) (mvT hZ (wi hw 22 rfl)) (by decide) (backOf (W := 0) (rm_l1 l Z a0 hw [] G1 aa bb kb nn bs h0 n0 Z0 (O2) (P5) f4 f5 f6 f7 (hnn) Old0) hZ (wi hw 24 rfl) (wi hw 9 rfl) (by decide) (by decide)) q864a q864c (g := (mkF m 3 #[.val (.ref aa), .unset] [(.int 47), (.ref aa)])) rfl (by rw [hml]; rfl) (Steps.refl _) (argsL := [(.int 47)]) (rest := []) (lenOf pd__I_I rfl) rfl (by show 2 * 0 + _ ≤ _; exact Nat.le_of_eq rfl) (hb hby dprog32m14_3) (fun _ _ => ⟨rfl, e0, (by decide : 0 + 0 ≤ _), (by decide : 0 + 0 ≤ _)⟩)
 dsimp only [Pt.U, Pt.locs, Pt.cells, Pt.slots] at X864 l864 y864 z864 st864 hQ864
 subst l864 y864 z864
 obtain ⟨rfl, NQ864, K864⟩ := hQ864
 have N865 := Fr.app N0 NQ864
 refine Rch.st (fun _ k => st864.trans k) ?_
 show Rch p e below T864 (mkF m 6 #[.val (.ref aa), .unset] [(.int (own_lst bs nn.toNatClampNeg))]) _
 have r866 : (own_lst bs nn.toNatClampNeg) = jj := hres
 rw [r866]
 show Rch p e below T864 (mkF m 6 #[.val (.ref aa), .unset] [(.int jj)]) _
 refine w_istoreN (pc' := 7) (l' := #[.val (.ref aa), .val (.int jj)]) X864 hx hby dprog32m14_6 rfl rfl ?_
 refine w_iloadN (pc' := 8) X864 hx hby dprog32m14_7 rfl rfl ?_
 refine w_ifYes (pc' := 16) X864 hx hby dprog32m14_8 (XT.i0_ge_t (hz0)) (by decide) ?_
 refine w_aloadN (pc' := 17) X864 hx hby dprog32m14_16 rfl rfl rfl ?_
 refine w_iconst (pc' := 18) (v := 0) X864 hx hby dprog32m14_17 rfl rfl ?_
 refine w_iloadN (pc' := 19) X864 hx hby dprog32m14_18 rfl rfl ?_
 obtain ⟨cq867, kq867, q867a, q867b, q867c⟩ := isOf hZ K864 f4
 obtain ⟨_, _, ⟨T867, L867, k867, n867⟩, -, X867, ⟨Lc867, hQ867, l867, y867, z867⟩, st867⟩ := X864.virtualBack hx (y := (⟨"java/lang/String", "substring", "(II)Ljava/lang/String;"⟩ : MethodName)) (z := (⟨"java/lang/String", "substring", "(II)Ljava/lang/String;"⟩ : MethodName)) hown (mvT hZ (wi hw 83 rfl)) (mvT hZ (wi hw 84 rfl)) (notFace_of_selects (args := #[]) (mvT hZ (wi hw 86 rfl))) (mvT hZ (wi hw 86 rfl)) (mvT hZ (wi hw 85 rfl)) (by decide) (backOf (W := 0) (rm_sub0 l Z a0 hw [] G1 G3 aa bb kb nn bs jj h0 n0 Z0 (O2) (P5) (O4) (rG3) f4 f5 f6 f7 (hz0) (hc8) (hmn) (hlt) (hne) (hle) (hjz) Old0) hZ (wi hw 87 rfl) (wi hw 9 rfl) (by decide) (by decide)) q867a q867c (g := (mkF m 19 #[.val (.ref aa), .val (.int jj)] [(.int jj), (.int 0), (.ref aa)])) rfl (by rw [hml]; rfl) (Steps.refl _) (argsL := [(.int 0), (.int jj)]) (rest := []) (lenOf pd__II_Ljava_lang_String_ rfl) rfl (by show 2 * 0 + _ ≤ _; exact Nat.le_of_eq rfl) (hb hby dprog32m14_19) (fun _ _ => ⟨rfl, K864, (by decide : 0 + 2 ≤ _), (by decide : 0 + 12 ≤ _)⟩)
 dsimp only [Pt.U, Pt.locs, Pt.cells, Pt.slots] at X867 l867 y867 z867 st867 hQ867
 subst l867 y867 z867
 obtain ⟨ra_867, t_867, kt_867, rfl, NQ867, K867, pq867_0, pq867_1, fq867_0, fq867_1, fq867_2, fq867_3⟩ := hQ867
 have N868 := Fr.app N865 NQ867
 have Kp880 : Keep h0 T867.heap [] := K00.trans K867 all0
 refine Rch.st (fun _ k => st867.trans k) ?_
 show Rch p e below T867 (mkF m 22 #[.val (.ref aa), .val (.int jj)] [(.ref ra_867)]) _
 exact Rch.retV X867 hx Bd.returns rfl (Or.inr (Or.inr (Or.inr (Or.inr ⟨rfl, rfl, rfl⟩)))) (hb hby dprog32m14_22) (by rw [(rfl : T867.heap = T867.heap)]; exact ⟨ra_867, t_867, kt_867, rfl, N868, Kp880, (Nat.le_trans K00.1 pq867_0), (Nat.le_trans K00.1 pq867_1), fq867_0, fq867_1, fq867_2, fq867_3⟩) (by decide) (by decide)

theorem ef_rm_law (m : MethodId) (G1 : Int32) (G3 : Value) (ln : Int32) (ya : Int32) (yb : Int32) (yc : Int32) (yd : Int32) (ye : Int32)  : entryFrame m #[(.int ln), (.int ya), (.int yb), (.int yc), (.int yd), (.int ye)] maxLocals = mkF m 0 #[.val (.int ln), .val (.int ya), .val (.int yb), .val (.int yc), .val (.int yd), .val (.int ye), .unset, .unset, .unset, .unset, .unset, .unset, .unset, .unset, .unset, .unset] [] := by  first | (simp [entryFrame, mkF, argsToLocals, Value.category, maxLocals]; done) | rfl
def Q_rm_law (Z : State) (G1 : Int32) (G3 : Value) (ln : Int32) (ya : Int32) (yb : Int32) (yc : Int32) (yd : Int32) (ye : Int32) (h0 : Heap) (n0 : Nat) (v : Option Value) (h : Heap) (vm : Vm) (L : List Loc) : Prop := (v = some (.int (1 : Int32))) ∧ (Fr n0 L) ∧ (Keep h0 h []) ∧ (CHv Z consts_1 vm h)
theorem pd__I_C : parseMethodDescriptor "(I)C" = some ⟨[.int], (some .char)⟩ := by decide +kernel
theorem pd__ICCCCC_Ljava_lang_String_ : parseMethodDescriptor "(ICCCCC)Ljava/lang/String;" = some ⟨[.int, .char, .char, .char, .char, .char], (some (.object "java/lang/String"))⟩ := by decide +kernel
theorem pd__Ljava_lang_String__Ljava_lang_String_ : parseMethodDescriptor "(Ljava/lang/String;)Ljava/lang/String;" = some ⟨[(.object "java/lang/String")], (some (.object "java/lang/String"))⟩ := by decide +kernel
set_option maxRecDepth 65536 in
set_option maxHeartbeats 40000000 in
theorem rm_law (l : Launch) (Z : State) (a0 : Array Value) (hw : ∀ d ∈ tables_1, d.before a0 Z = true) (ws : List Jvm.Cond) (G1 : Int32) (G3 : Value) (ln : Int32) (ya : Int32) (yb : Int32) (yc : Int32) (yd : Int32) (ye : Int32) (h0 : Heap) (n0 : Nat) (Z0 : n0 ≤ h0.size) (O2 : Sta Z Z.heap "java/lang/String" "COMPACT_STRINGS" "Z" (.int G1)) (P5 : ¬ G1 = 0) (O4 : Sta Z Z.heap "jdk/internal/util/Preconditions" "SIOOBE_FORMATTER" "Ljava/util/function/BiFunction;" G3) (rG3 : G3.isRef = true) (Old0 : OldL Z n0 h0) :
    MetFree l x (head1 (Jvm.Cond.code x code maxLocals ret :: ws) room_1) (fun a U => a = #[(.int ln), (.int ya), (.int yb), (.int yc), (.int yd), (.int ye)] ∧ Z.Warmed39 U.vm ∧ U.heap = h0 ∧ CHv Z consts_1 U.vm h0) (fun _ _ _ _ _ => True) (fun _ U o U' => ∃ v L, o = .returned v ∧ Q_rm_law Z G1 G3 ln ya yb yc yd ye h0 n0 v U'.heap U'.vm L ∧ ReturnedEndW U o U' L 24 3200) := by
 refine MetFree.of_bodySF (plainFor_of_name pn_com_example_fascicle_fascicle_EntriesDirectoryOfPinLaw) hisR ?_
 intro p e s m args below meth c s₁ Bd hml0 hP hK
 obtain ⟨rfl, hZ, hh, hI⟩ := hP
 have hx := Bd.exec
 have hby := Bd.bytes
 have hml : c.maxLocals = 16 := hml0
 have hown : s.vm.findClass "com/example/fascicle/fascicle/EntriesDirectoryOfPinLaw" = some m.cls := findClass_of_methodNamed Bd.named
 have hnm := (name_of_methodNamed Bd.named Bd.method).1
 have X0 : Stand p l e room_1 (s.setVm s.vm) m #[(.int ln), (.int ya), (.int yb), (.int yc), (.int yd), (.int ye)] below meth c s₁ [] 0 0 := Stand.of_body Bd
 have e0 : s₁.heap = h0 := by rw [← hh, Bd.state]; rfl
 have N0 := Fr.nil n0
 have K00 : Keep h0 h0 [] := Keep.refl _ _
 have hS0 : s.Since s.vm s.heap.size := (State.WarmedH.refl s).since _
 have hk0 : s.heap.size ≤ h0.size := by rw [hh]; exact Nat.le_refl _
 have hkeep : ∀ (b : Addr) (cl : Cell), Z.heap[b]? = some cl → s.heap[b]? = some cl := by rw [hh]; exact Old0.2.2
 show Rch p e below s₁ (entryFrame m #[(.int ln), (.int ya), (.int yb), (.int yc), (.int yd), (.int ye)] maxLocals) (FinW s (Q_rm_law Z G1 G3 ln ya yb yc yd ye h0 n0) 24 3200)
 refine Rch.cast (ef_rm_law m G1 G3 ln ya yb yc yd ye) ?_
 have hEL := own_EW hw
 have Z0f := Nat.le_refl h0.size
 have N0f := Fr.nil h0.size
 have OldF := Old0.up Z0
 show Rch p e below s₁ (mkF m 0 #[.val (.int ln), .val (.int ya), .val (.int yb), .val (.int yc), .val (.int yd), .val (.int ye), .unset, .unset, .unset, .unset, .unset, .unset, .unset, .unset, .unset, .unset] []) _
 refine w_iloadN (pc' := 1) X0 hx hby at_0 rfl rfl ?_
 refine Rch.st (fun _ k => Stand.ldcI X0 hx hown (mv hZ (wi hw 0 rfl)) rfl (hb hby at_1) k) ?_
 show Rch p e below s₁ (mkF m 3 #[.val (.int ln), .val (.int ya), .val (.int yb), .val (.int yc), .val (.int yd), .val (.int ye), .unset, .unset, .unset, .unset, .unset, .unset, .unset, .unset, .unset, .unset] [(.int 2147483647), (.int ln)]) _
 refine w_iand (pc' := 4) X0 hx hby at_3 rfl ?_
 refine w_bipush (pc' := 6) (v := 6) X0 hx hby at_4 rfl rfl ?_
 refine w_irem (pc' := 7) X0 hx hby at_6 (by decide) rfl ?_
 obtain ⟨n6, hn6⟩ : ∃ z, z = ((ln &&& (2147483647 : Int32)) % (6 : Int32)) := ⟨_, rfl⟩
 rw [← hn6]
 show Rch p e below s₁ (mkF m 7 #[.val (.int ln), .val (.int ya), .val (.int yb), .val (.int yc), .val (.int yd), .val (.int ye), .unset, .unset, .unset, .unset, .unset, .unset, .unset, .unset, .unset, .unset] [(.int n6)]) _
 refine w_istore (pc' := 9) (l' := #[.val (.int ln), .val (.int ya), .val (.int yb), .val (.int yc), .val (.int yd), .val (.int ye), .val (.int n6), .unset, .unset, .unset, .unset, .unset, .unset, .unset, .unset, .unset]) X0 hx hby at_7 rfl rfl ?_
 refine w_iloadN (pc' := 10) X0 hx hby at_9 rfl rfl ?_
 obtain ⟨_, _, ⟨T882, L882, k882, n882⟩, -, X882, ⟨Lc882, hQ882, l882, y882, z882⟩, st882⟩ := Jvm.LawKit.callS X0 hx (y := (⟨"com/example/fascicle/fascicle/EntriesDirectoryOfPinLaw", "ch", "(I)C"⟩ : MethodName)) hown (mvT hZ (wi hw 1 rfl)) (mvT hZ (wi hw 2 rfl)) (mvT hZ (wi hw 3 rfl)) (mvT hZ (wi hw 4 rfl)) (by decide) (backOf (W := 0) (rm_ch l Z a0 hw [] ya h0 h0.size Z0f ) hZ (wi hw 4 rfl) (wi hw 3 rfl) (by decide) (by decide)) (g := (mkF m 10 #[.val (.int ln), .val (.int ya), .val (.int yb), .val (.int yc), .val (.int yd), .val (.int ye), .val (.int n6), .unset, .unset, .unset, .unset, .unset, .unset, .unset, .unset, .unset] [(.int ya)])) rfl (by rw [hml]; rfl) (argsL := [(.int ya)]) (rest := []) (lenOf pd__I_C rfl) rfl (by show 2 * 0 + _ ≤ _; exact Nat.le_of_eq rfl) (hb hby at_10) (fun _ _ => ⟨rfl, e0, (by decide : 0 + 0 ≤ _), (by decide : 0 + 0 ≤ _)⟩)
 dsimp only [Pt.U, Pt.locs, Pt.cells, Pt.slots] at X882 l882 y882 z882 st882 hQ882
 subst l882 y882 z882
 obtain ⟨rfl, NQ882, K882⟩ := hQ882
 have N883 := Fr.app N0f NQ882
 refine Rch.st (fun _ k => st882 _ k) ?_
 show Rch p e below T882 (mkF m 13 #[.val (.int ln), .val (.int ya), .val (.int yb), .val (.int yc), .val (.int yd), .val (.int ye), .val (.int n6), .unset, .unset, .unset, .unset, .unset, .unset, .unset, .unset, .unset] [(.int (own_ch ya))]) _
 obtain ⟨xa, hxa⟩ : ∃ z, z = (own_ch ya) := ⟨_, rfl⟩
 rw [← hxa]
 show Rch p e below T882 (mkF m 13 #[.val (.int ln), .val (.int ya), .val (.int yb), .val (.int yc), .val (.int yd), .val (.int ye), .val (.int n6), .unset, .unset, .unset, .unset, .unset, .unset, .unset, .unset, .unset] [(.int xa)]) _
 have ch_xa : Ch8 xa := hxa ▸ own_ch_ok ya
 refine w_istore (pc' := 15) (l' := #[.val (.int ln), .val (.int ya), .val (.int yb), .val (.int yc), .val (.int yd), .val (.int ye), .val (.int n6), .val (.int xa), .unset, .unset, .unset, .unset, .unset, .unset, .unset, .unset]) X882 hx hby at_13 rfl rfl ?_
 refine w_iloadN (pc' := 16) X882 hx hby at_15 rfl rfl ?_
 obtain ⟨_, _, ⟨T884, L884, k884, n884⟩, -, X884, ⟨Lc884, hQ884, l884, y884, z884⟩, st884⟩ := Jvm.LawKit.callS X882 hx (y := (⟨"com/example/fascicle/fascicle/EntriesDirectoryOfPinLaw", "ch", "(I)C"⟩ : MethodName)) hown (mvT hZ (wi hw 1 rfl)) (mvT hZ (wi hw 2 rfl)) (mvT hZ (wi hw 3 rfl)) (mvT hZ (wi hw 4 rfl)) (by decide) (backOf (W := 0) (rm_ch l Z a0 hw [] yb h0 h0.size Z0f ) hZ (wi hw 4 rfl) (wi hw 3 rfl) (by decide) (by decide)) (g := (mkF m 16 #[.val (.int ln), .val (.int ya), .val (.int yb), .val (.int yc), .val (.int yd), .val (.int ye), .val (.int n6), .val (.int xa), .unset, .unset, .unset, .unset, .unset, .unset, .unset, .unset] [(.int yb)])) rfl (by rw [hml]; rfl) (argsL := [(.int yb)]) (rest := []) (lenOf pd__I_C rfl) rfl (by show 2 * 0 + _ ≤ _; exact Nat.le_of_eq rfl) (hb hby at_16) (fun _ _ => ⟨rfl, K882, (by decide : 0 + 0 ≤ _), (by decide : 0 + 0 ≤ _)⟩)
 dsimp only [Pt.U, Pt.locs, Pt.cells, Pt.slots] at X884 l884 y884 z884 st884 hQ884
 subst l884 y884 z884
 obtain ⟨rfl, NQ884, K884⟩ := hQ884
 have N885 := Fr.app N883 NQ884
 refine Rch.st (fun _ k => st884 _ k) ?_
 show Rch p e below T884 (mkF m 19 #[.val (.int ln), .val (.int ya), .val (.int yb), .val (.int yc), .val (.int yd), .val (.int ye), .val (.int n6), .val (.int xa), .unset, .unset, .unset, .unset, .unset, .unset, .unset, .unset] [(.int (own_ch yb))]) _
 obtain ⟨xb, hxb⟩ : ∃ z, z = (own_ch yb) := ⟨_, rfl⟩
 rw [← hxb]
 show Rch p e below T884 (mkF m 19 #[.val (.int ln), .val (.int ya), .val (.int yb), .val (.int yc), .val (.int yd), .val (.int ye), .val (.int n6), .val (.int xa), .unset, .unset, .unset, .unset, .unset, .unset, .unset, .unset] [(.int xb)]) _
 have ch_xb : Ch8 xb := hxb ▸ own_ch_ok yb
 refine w_istore (pc' := 21) (l' := #[.val (.int ln), .val (.int ya), .val (.int yb), .val (.int yc), .val (.int yd), .val (.int ye), .val (.int n6), .val (.int xa), .val (.int xb), .unset, .unset, .unset, .unset, .unset, .unset, .unset]) X884 hx hby at_19 rfl rfl ?_
 refine w_iloadN (pc' := 22) X884 hx hby at_21 rfl rfl ?_
 obtain ⟨_, _, ⟨T886, L886, k886, n886⟩, -, X886, ⟨Lc886, hQ886, l886, y886, z886⟩, st886⟩ := Jvm.LawKit.callS X884 hx (y := (⟨"com/example/fascicle/fascicle/EntriesDirectoryOfPinLaw", "ch", "(I)C"⟩ : MethodName)) hown (mvT hZ (wi hw 1 rfl)) (mvT hZ (wi hw 2 rfl)) (mvT hZ (wi hw 3 rfl)) (mvT hZ (wi hw 4 rfl)) (by decide) (backOf (W := 0) (rm_ch l Z a0 hw [] yc h0 h0.size Z0f ) hZ (wi hw 4 rfl) (wi hw 3 rfl) (by decide) (by decide)) (g := (mkF m 22 #[.val (.int ln), .val (.int ya), .val (.int yb), .val (.int yc), .val (.int yd), .val (.int ye), .val (.int n6), .val (.int xa), .val (.int xb), .unset, .unset, .unset, .unset, .unset, .unset, .unset] [(.int yc)])) rfl (by rw [hml]; rfl) (argsL := [(.int yc)]) (rest := []) (lenOf pd__I_C rfl) rfl (by show 2 * 0 + _ ≤ _; exact Nat.le_of_eq rfl) (hb hby at_22) (fun _ _ => ⟨rfl, K884, (by decide : 0 + 0 ≤ _), (by decide : 0 + 0 ≤ _)⟩)
 dsimp only [Pt.U, Pt.locs, Pt.cells, Pt.slots] at X886 l886 y886 z886 st886 hQ886
 subst l886 y886 z886
 obtain ⟨rfl, NQ886, K886⟩ := hQ886
 have N887 := Fr.app N885 NQ886
 refine Rch.st (fun _ k => st886 _ k) ?_
 show Rch p e below T886 (mkF m 25 #[.val (.int ln), .val (.int ya), .val (.int yb), .val (.int yc), .val (.int yd), .val (.int ye), .val (.int n6), .val (.int xa), .val (.int xb), .unset, .unset, .unset, .unset, .unset, .unset, .unset] [(.int (own_ch yc))]) _
 obtain ⟨xc, hxc⟩ : ∃ z, z = (own_ch yc) := ⟨_, rfl⟩
 rw [← hxc]
 show Rch p e below T886 (mkF m 25 #[.val (.int ln), .val (.int ya), .val (.int yb), .val (.int yc), .val (.int yd), .val (.int ye), .val (.int n6), .val (.int xa), .val (.int xb), .unset, .unset, .unset, .unset, .unset, .unset, .unset] [(.int xc)]) _
 have ch_xc : Ch8 xc := hxc ▸ own_ch_ok yc
 refine w_istore (pc' := 27) (l' := #[.val (.int ln), .val (.int ya), .val (.int yb), .val (.int yc), .val (.int yd), .val (.int ye), .val (.int n6), .val (.int xa), .val (.int xb), .val (.int xc), .unset, .unset, .unset, .unset, .unset, .unset]) X886 hx hby at_25 rfl rfl ?_
 refine w_iload (pc' := 29) X886 hx hby at_27 rfl rfl ?_
 obtain ⟨_, _, ⟨T888, L888, k888, n888⟩, -, X888, ⟨Lc888, hQ888, l888, y888, z888⟩, st888⟩ := Jvm.LawKit.callS X886 hx (y := (⟨"com/example/fascicle/fascicle/EntriesDirectoryOfPinLaw", "ch", "(I)C"⟩ : MethodName)) hown (mvT hZ (wi hw 1 rfl)) (mvT hZ (wi hw 2 rfl)) (mvT hZ (wi hw 3 rfl)) (mvT hZ (wi hw 4 rfl)) (by decide) (backOf (W := 0) (rm_ch l Z a0 hw [] yd h0 h0.size Z0f ) hZ (wi hw 4 rfl) (wi hw 3 rfl) (by decide) (by decide)) (g := (mkF m 29 #[.val (.int ln), .val (.int ya), .val (.int yb), .val (.int yc), .val (.int yd), .val (.int ye), .val (.int n6), .val (.int xa), .val (.int xb), .val (.int xc), .unset, .unset, .unset, .unset, .unset, .unset] [(.int yd)])) rfl (by rw [hml]; rfl) (argsL := [(.int yd)]) (rest := []) (lenOf pd__I_C rfl) rfl (by show 2 * 0 + _ ≤ _; exact Nat.le_of_eq rfl) (hb hby at_29) (fun _ _ => ⟨rfl, K886, (by decide : 0 + 0 ≤ _), (by decide : 0 + 0 ≤ _)⟩)
 dsimp only [Pt.U, Pt.locs, Pt.cells, Pt.slots] at X888 l888 y888 z888 st888 hQ888
 subst l888 y888 z888
 obtain ⟨rfl, NQ888, K888⟩ := hQ888
 have N889 := Fr.app N887 NQ888
 refine Rch.st (fun _ k => st888 _ k) ?_
 show Rch p e below T888 (mkF m 32 #[.val (.int ln), .val (.int ya), .val (.int yb), .val (.int yc), .val (.int yd), .val (.int ye), .val (.int n6), .val (.int xa), .val (.int xb), .val (.int xc), .unset, .unset, .unset, .unset, .unset, .unset] [(.int (own_ch yd))]) _
 obtain ⟨xd, hxd⟩ : ∃ z, z = (own_ch yd) := ⟨_, rfl⟩
 rw [← hxd]
 show Rch p e below T888 (mkF m 32 #[.val (.int ln), .val (.int ya), .val (.int yb), .val (.int yc), .val (.int yd), .val (.int ye), .val (.int n6), .val (.int xa), .val (.int xb), .val (.int xc), .unset, .unset, .unset, .unset, .unset, .unset] [(.int xd)]) _
 have ch_xd : Ch8 xd := hxd ▸ own_ch_ok yd
 refine w_istore (pc' := 34) (l' := #[.val (.int ln), .val (.int ya), .val (.int yb), .val (.int yc), .val (.int yd), .val (.int ye), .val (.int n6), .val (.int xa), .val (.int xb), .val (.int xc), .val (.int xd), .unset, .unset, .unset, .unset, .unset]) X888 hx hby at_32 rfl rfl ?_
 refine w_iload (pc' := 36) X888 hx hby at_34 rfl rfl ?_
 obtain ⟨_, _, ⟨T890, L890, k890, n890⟩, -, X890, ⟨Lc890, hQ890, l890, y890, z890⟩, st890⟩ := Jvm.LawKit.callS X888 hx (y := (⟨"com/example/fascicle/fascicle/EntriesDirectoryOfPinLaw", "ch", "(I)C"⟩ : MethodName)) hown (mvT hZ (wi hw 1 rfl)) (mvT hZ (wi hw 2 rfl)) (mvT hZ (wi hw 3 rfl)) (mvT hZ (wi hw 4 rfl)) (by decide) (backOf (W := 0) (rm_ch l Z a0 hw [] ye h0 h0.size Z0f ) hZ (wi hw 4 rfl) (wi hw 3 rfl) (by decide) (by decide)) (g := (mkF m 36 #[.val (.int ln), .val (.int ya), .val (.int yb), .val (.int yc), .val (.int yd), .val (.int ye), .val (.int n6), .val (.int xa), .val (.int xb), .val (.int xc), .val (.int xd), .unset, .unset, .unset, .unset, .unset] [(.int ye)])) rfl (by rw [hml]; rfl) (argsL := [(.int ye)]) (rest := []) (lenOf pd__I_C rfl) rfl (by show 2 * 0 + _ ≤ _; exact Nat.le_of_eq rfl) (hb hby at_36) (fun _ _ => ⟨rfl, K888, (by decide : 0 + 0 ≤ _), (by decide : 0 + 0 ≤ _)⟩)
 dsimp only [Pt.U, Pt.locs, Pt.cells, Pt.slots] at X890 l890 y890 z890 st890 hQ890
 subst l890 y890 z890
 obtain ⟨rfl, NQ890, K890⟩ := hQ890
 have N891 := Fr.app N889 NQ890
 refine Rch.st (fun _ k => st890 _ k) ?_
 show Rch p e below T890 (mkF m 39 #[.val (.int ln), .val (.int ya), .val (.int yb), .val (.int yc), .val (.int yd), .val (.int ye), .val (.int n6), .val (.int xa), .val (.int xb), .val (.int xc), .val (.int xd), .unset, .unset, .unset, .unset, .unset] [(.int (own_ch ye))]) _
 obtain ⟨xe, hxe⟩ : ∃ z, z = (own_ch ye) := ⟨_, rfl⟩
 rw [← hxe]
 show Rch p e below T890 (mkF m 39 #[.val (.int ln), .val (.int ya), .val (.int yb), .val (.int yc), .val (.int yd), .val (.int ye), .val (.int n6), .val (.int xa), .val (.int xb), .val (.int xc), .val (.int xd), .unset, .unset, .unset, .unset, .unset] [(.int xe)]) _
 have ch_xe : Ch8 xe := hxe ▸ own_ch_ok ye
 refine w_istore (pc' := 41) (l' := #[.val (.int ln), .val (.int ya), .val (.int yb), .val (.int yc), .val (.int yd), .val (.int ye), .val (.int n6), .val (.int xa), .val (.int xb), .val (.int xc), .val (.int xd), .val (.int xe), .unset, .unset, .unset, .unset]) X890 hx hby at_39 rfl rfl ?_
 refine w_iload (pc' := 43) X890 hx hby at_41 rfl rfl ?_
 refine w_iload (pc' := 45) X890 hx hby at_43 rfl rfl ?_
 refine w_iload (pc' := 47) X890 hx hby at_45 rfl rfl ?_
 refine w_iload (pc' := 49) X890 hx hby at_47 rfl rfl ?_
 refine w_iload (pc' := 51) X890 hx hby at_49 rfl rfl ?_
 refine w_iload (pc' := 53) X890 hx hby at_51 rfl rfl ?_
 rcases (hn6 ▸ own_rem6 ln : n6 = 0 ∨ n6 = 1 ∨ n6 = 2 ∨ n6 = 3 ∨ n6 = 4 ∨ n6 = 5) with rfl | rfl | rfl | rfl | rfl | rfl
 ·skip
  show Rch p e below T890 (mkF m 53 #[.val (.int ln), .val (.int ya), .val (.int yb), .val (.int yc), .val (.int yd), .val (.int ye), .val (.int 0), .val (.int xa), .val (.int xb), .val (.int xc), .val (.int xd), .val (.int xe), .unset, .unset, .unset, .unset] [(.int xe), (.int xd), (.int xc), (.int xb), (.int xa), (.int 0)]) _
  obtain ⟨_, _, ⟨T892, L892, k892, n892⟩, -, X892, hSx892, hgx892, ⟨Lc892, hQ892, l892, y892, z892⟩, st892⟩ := callSS X890 hx (y := (⟨"com/example/fascicle/fascicle/EntriesDirectoryOfPinLaw", "mk", "(ICCCCC)Ljava/lang/String;"⟩ : MethodName)) hown (mvT hZ (wi hw 5 rfl)) (mvT hZ (wi hw 6 rfl)) (mvT hZ (wi hw 3 rfl)) (mvT hZ (wi hw 7 rfl)) (by decide) (backOfV (PV := fun vm => CHv Z consts_1 vm h0) (W := 0) (rm_mk_0 l Z a0 hw [] xa xb xc xd xe h0 h0.size Z0f OldF) hZ (fun vm hW => own_chv (s := s) (vm0 := s.vm) hZ hEL hW hI) (wi hw 7 rfl) (wi hw 3 rfl) (by decide) (by decide)) (g := (mkF m 53 #[.val (.int ln), .val (.int ya), .val (.int yb), .val (.int yc), .val (.int yd), .val (.int ye), .val (.int 0), .val (.int xa), .val (.int xb), .val (.int xc), .val (.int xd), .val (.int xe), .unset, .unset, .unset, .unset] [(.int xe), (.int xd), (.int xc), (.int xb), (.int xa), (.int 0)])) rfl (by rw [hml]; rfl) (argsL := [(.int 0), (.int xa), (.int xb), (.int xc), (.int xd), (.int xe)]) (rest := []) (lenOf pd__ICCCCC_Ljava_lang_String_ rfl) rfl (by show 2 * 0 + _ ≤ _; exact Nat.le_of_eq rfl) (hb hby at_53) (fun _ _ => ⟨rfl, K890, (by decide : 0 + 2 ≤ _), (by decide : 0 + 4 ≤ _)⟩)
  dsimp only [Pt.U, Pt.locs, Pt.cells, Pt.slots] at X892 l892 y892 z892 st892 hQ892 hSx892 hgx892
  subst l892 y892 z892
  have hS892 := foldS hS0 (by rw [K890]; exact hk0) hSx892 hgx892
  have hk892 : T892.heap.size ≤ T892.heap.size := Nat.le_refl _
  have hZ892 : Z.Warmed39 (s.setVm T892.vm).vm := State.Warmed39.trans (t := s.setVm s.vm) hZ hSx892.1
  have hown892 : (s.setVm T892.vm).vm.findClass "com/example/fascicle/fascicle/EntriesDirectoryOfPinLaw" = some m.cls := by rw [show (s.setVm T892.vm).vm = T892.vm from rfl, hSx892.1.alike.findClass]; exact hown
  have X892w : Stand p l e room_1 (s.setVm T892.vm) m _ below meth c T892 _ _ _ := X892
  obtain ⟨ra_892, t_892, kt_892, rfl, NQ892, K892, fq892_0, fq892_1, fq892_2, fq892_3, IQ892⟩ := hQ892
  have N893 := Fr.app N891 NQ892
  have Old894 := OldF.keep K892 all0
  have Kp895 : Keep h0 T892.heap [] := K00.trans K892 all0
  have Z896 := Nat.le_trans Z0f K892.1
  refine Rch.st (fun _ k => st892.trans k) ?_
  show Rch p e below T892 (mkF m 56 #[.val (.int ln), .val (.int ya), .val (.int yb), .val (.int yc), .val (.int yd), .val (.int ye), .val (.int 0), .val (.int xa), .val (.int xb), .val (.int xc), .val (.int xd), .val (.int xe), .unset, .unset, .unset, .unset] [(.ref ra_892)]) _
  refine w_astore (pc' := 58) (l' := #[.val (.int ln), .val (.int ya), .val (.int yb), .val (.int yc), .val (.int yd), .val (.int ye), .val (.int 0), .val (.int xa), .val (.int xb), .val (.int xc), .val (.int xd), .val (.int xe), .val (.ref ra_892), .unset, .unset, .unset]) X892w hx hby at_56 rfl rfl rfl ?_
  refine w_aload (pc' := 60) X892w hx hby at_58 rfl rfl rfl ?_
  have f897 : Arv Z T892.heap t_892 kt_892 .byte (0 : Int32) (([] : List Int32).map Value.int) (.int (0 : Int32)) := fq892_3
  obtain ⟨_, _, ⟨T898, L898, k898, n898⟩, -, X898, hSx898, hgx898, ⟨Lc898, hQ898, l898, y898, z898⟩, st898⟩ := callSS X892w hx (y := (⟨"com/example/fascicle/fascicle/Entries", "directoryOf", "(Ljava/lang/String;)Ljava/lang/String;"⟩ : MethodName)) hown892 (mvT hZ892 (wi hw 16 rfl)) (mvT hZ892 (wi hw 17 rfl)) (mvT hZ892 (wi hw 18 rfl)) (mvT hZ892 (wi hw 19 rfl)) (by decide) (backOfV (PV := fun vm => CHv Z consts_1 vm T892.heap) (W := 0) (rm_di_neg l Z a0 hw [] G1 G3 ra_892 t_892 kt_892 0 ([] : List Int32) T892.heap h0.size Z896 (O2) (P5) (O4) (rG3) fq892_0 fq892_1 fq892_2 f897 (by decide) (by rw [show (0 : Int32).toNatClampNeg = 0 from by decide]; show (-1 : Int32) = _; rfl) Old894) hZ892 (fun vm hW => own_chv (s := s) (vm0 := T892.vm) hZ892 hEL hW IQ892) (wi hw 19 rfl) (wi hw 18 rfl) (by decide) (by decide)) (g := (mkF m 60 #[.val (.int ln), .val (.int ya), .val (.int yb), .val (.int yc), .val (.int yd), .val (.int ye), .val (.int 0), .val (.int xa), .val (.int xb), .val (.int xc), .val (.int xd), .val (.int xe), .val (.ref ra_892), .unset, .unset, .unset] [(.ref ra_892)])) rfl (by rw [hml]; rfl) (argsL := [(.ref ra_892)]) (rest := []) (lenOf pd__Ljava_lang_String__Ljava_lang_String_ rfl) rfl (by show 2 * 0 + _ ≤ _; exact Nat.le_of_eq rfl) (hb hby at_60) (fun _ _ => ⟨rfl, (rfl : T892.heap = T892.heap), (by decide : 2 + 2 ≤ _), (by decide : 4 + 4 ≤ _)⟩)
  dsimp only [Pt.U, Pt.locs, Pt.cells, Pt.slots] at X898 l898 y898 z898 st898 hQ898 hSx898 hgx898
  subst l898 y898 z898
  have hS898 := foldS hS892 (by rw [(rfl : T892.heap = T892.heap)]; exact hk892) hSx898 hgx898
  have hk898 : T898.heap.size ≤ T898.heap.size := Nat.le_refl _
  have hZ898 : Z.Warmed39 (s.setVm T898.vm).vm := State.Warmed39.trans (t := s.setVm T892.vm) hZ892 hSx898.1
  have hown898 : (s.setVm T898.vm).vm.findClass "com/example/fascicle/fascicle/EntriesDirectoryOfPinLaw" = some m.cls := by rw [show (s.setVm T898.vm).vm = T898.vm from rfl, hSx898.1.alike.findClass]; exact hown892
  have X898w : Stand p l e room_1 (s.setVm T898.vm) m _ below meth c T898 _ _ _ := X898
  obtain ⟨ra_898, t_898, kt_898, rfl, NQ898, K898, fq898_0, fq898_1, fq898_2, fq898_3, IQ898⟩ := hQ898
  have N899 := Fr.app N893 NQ898
  have Old904 := Old894.keep K898 all0
  have Kp905 : Keep h0 T898.heap [] := Kp895.trans K898 all0
  have Z906 := Nat.le_trans Z896 K898.1
  refine Rch.st (fun _ k => st898.trans k) ?_
  show Rch p e below T898 (mkF m 63 #[.val (.int ln), .val (.int ya), .val (.int yb), .val (.int yc), .val (.int yd), .val (.int ye), .val (.int 0), .val (.int xa), .val (.int xb), .val (.int xc), .val (.int xd), .val (.int xe), .val (.ref ra_892), .unset, .unset, .unset] [(.ref ra_898)]) _
  refine w_astore (pc' := 65) (l' := #[.val (.int ln), .val (.int ya), .val (.int yb), .val (.int yc), .val (.int yd), .val (.int ye), .val (.int 0), .val (.int xa), .val (.int xb), .val (.int xc), .val (.int xd), .val (.int xe), .val (.ref ra_892), .val (.ref ra_898), .unset, .unset]) X898w hx hby at_63 rfl rfl rfl ?_
  refine w_iconst (pc' := 66) (v := (-1)) X898w hx hby at_65 rfl rfl ?_
  refine w_istore (pc' := 68) (l' := #[.val (.int ln), .val (.int ya), .val (.int yb), .val (.int yc), .val (.int yd), .val (.int ye), .val (.int 0), .val (.int xa), .val (.int xb), .val (.int xc), .val (.int xd), .val (.int xe), .val (.ref ra_892), .val (.ref ra_898), .val (.int (-1 : Int32)), .unset]) X898w hx hby at_66 rfl rfl ?_
  refine w_iload (pc' := 70) X898w hx hby at_68 rfl rfl ?_
  refine w_iconst (pc' := 71) (v := 4) X898w hx hby at_70 rfl rfl ?_
  refine w_icmpYes (pc' := 87) X898w hx hby at_71 (XT.ii_le_t (by decide)) (by decide) ?_
  refine w_iload (pc' := 89) X898w hx hby at_87 rfl rfl ?_
  refine w_iconst (pc' := 90) (v := 3) X898w hx hby at_89 rfl rfl ?_
  refine w_icmpYes (pc' := 106) X898w hx hby at_90 (XT.ii_le_t (by decide)) (by decide) ?_
  refine w_iload (pc' := 108) X898w hx hby at_106 rfl rfl ?_
  refine w_iconst (pc' := 109) (v := 2) X898w hx hby at_108 rfl rfl ?_
  refine w_icmpYes (pc' := 125) X898w hx hby at_109 (XT.ii_le_t (by decide)) (by decide) ?_
  refine w_iload (pc' := 127) X898w hx hby at_125 rfl rfl ?_
  refine w_iconst (pc' := 128) (v := 1) X898w hx hby at_127 rfl rfl ?_
  refine w_icmpYes (pc' := 144) X898w hx hby at_128 (XT.ii_le_t (by decide)) (by decide) ?_
  refine w_iload (pc' := 146) X898w hx hby at_144 rfl rfl ?_
  refine w_ifYes (pc' := 159) X898w hx hby at_146 (XT.i0_le_t (by decide)) (by decide) ?_
  refine w_iload (pc' := 161) X898w hx hby at_159 rfl rfl ?_
  refine w_ifNo (pc' := 164) X898w hx hby at_161 (XT.i0_ge_f (by decide)) rfl ?_
  refine w_iconst (pc' := 165) (v := 0) X898w hx hby at_164 rfl rfl ?_
  refine w_goto (pc' := 170) X898w hx hby at_165 (by decide) ?_
  refine w_istore (pc' := 172) (l' := #[.val (.int ln), .val (.int ya), .val (.int yb), .val (.int yc), .val (.int yd), .val (.int ye), .val (.int 0), .val (.int xa), .val (.int xb), .val (.int xc), .val (.int xd), .val (.int xe), .val (.ref ra_892), .val (.ref ra_898), .val (.int (-1 : Int32)), .val (.int 0)]) X898w hx hby at_170 rfl rfl ?_
  refine w_aload (pc' := 174) X898w hx hby at_172 rfl rfl rfl ?_
  refine w_nullNo (pc' := 177) X898w hx hby at_174 rfl (fun q => nomatch q) rfl ?_
  refine w_aload (pc' := 179) X898w hx hby at_177 rfl rfl rfl ?_
  obtain ⟨cq907, kq907, q907a, q907b, q907c⟩ := isOf hZ898 (rfl : T898.heap = T898.heap) fq898_0
  obtain ⟨_, _, ⟨T907, L907, k907, n907⟩, -, X907, ⟨Lc907, hQ907, l907, y907, z907⟩, st907⟩ := X898w.virtualBack hx (y := (⟨"java/lang/String", "length", "()I"⟩ : MethodName)) (z := (⟨"java/lang/String", "length", "()I"⟩ : MethodName)) hown898 (mvT hZ898 (wi hw 60 rfl)) (mvT hZ898 (wi hw 26 rfl)) (notFace_of_selects (args := #[]) (mvT hZ898 (wi hw 28 rfl))) (mvT hZ898 (wi hw 28 rfl)) (mvT hZ898 (wi hw 27 rfl)) (by decide) (backOf (W := 0) (rm_length l Z a0 hw [] G1 ra_898 0 t_898 kt_898 0 ([]) (.int 0) T898.heap h0.size Z906 (O2) (P5) fq898_1 (Or.inl rfl) fq898_2 fq898_3 fq898_0 Old904) hZ898 (wi hw 29 rfl) (wi hw 9 rfl) (by decide) (by decide)) q907a q907c (g := (mkF m 179 #[.val (.int ln), .val (.int ya), .val (.int yb), .val (.int yc), .val (.int yd), .val (.int ye), .val (.int 0), .val (.int xa), .val (.int xb), .val (.int xc), .val (.int xd), .val (.int xe), .val (.ref ra_892), .val (.ref ra_898), .val (.int (-1 : Int32)), .val (.int 0)] [(.ref ra_898)])) rfl (by rw [hml]; rfl) (Steps.refl _) (argsL := []) (rest := []) (lenOf pd___I rfl) rfl (by show 2 * 0 + _ ≤ _; exact Nat.le_of_eq rfl) (hb hby at_179) (fun _ _ => ⟨rfl, (rfl : T898.heap = T898.heap), (by decide : 4 + 0 ≤ _), (by decide : 8 + 0 ≤ _)⟩)
  dsimp only [Pt.U, Pt.locs, Pt.cells, Pt.slots] at X907 l907 y907 z907 st907 hQ907
  subst l907 y907 z907
  obtain ⟨rfl, NQ907, K907⟩ := hQ907
  have N908 := Fr.app N899 NQ907
  refine Rch.st (fun _ k => st907.trans k) ?_
  show Rch p e below T907 (mkF m 182 #[.val (.int ln), .val (.int ya), .val (.int yb), .val (.int yc), .val (.int yd), .val (.int ye), .val (.int 0), .val (.int xa), .val (.int xb), .val (.int xc), .val (.int xd), .val (.int xe), .val (.ref ra_892), .val (.ref ra_898), .val (.int (-1 : Int32)), .val (.int 0)] [(.int ((0 : Int32) >>> ((0 : Int32) &&& 31)))]) _
  refine w_iload (pc' := 184) X907 hx hby at_182 rfl rfl ?_
  refine w_icmpYes (pc' := 189) X907 hx hby at_184 (XT.ii_eq_t (by decide)) (by decide) ?_
  refine w_iload (pc' := 191) X907 hx hby at_189 rfl rfl ?_
  refine w_ifYes (pc' := 205) X907 hx hby at_191 (XT.i0_le_t (by decide)) (by decide) ?_
  refine w_iload (pc' := 207) X907 hx hby at_205 rfl rfl ?_
  refine w_iconst (pc' := 208) (v := 1) X907 hx hby at_207 rfl rfl ?_
  refine w_icmpYes (pc' := 222) X907 hx hby at_208 (XT.ii_le_t (by decide)) (by decide) ?_
  refine w_iload (pc' := 224) X907 hx hby at_222 rfl rfl ?_
  refine w_iconst (pc' := 225) (v := 2) X907 hx hby at_224 rfl rfl ?_
  refine w_icmpYes (pc' := 239) X907 hx hby at_225 (XT.ii_le_t (by decide)) (by decide) ?_
  refine w_iload (pc' := 241) X907 hx hby at_239 rfl rfl ?_
  refine w_iconst (pc' := 242) (v := 3) X907 hx hby at_241 rfl rfl ?_
  refine w_icmpYes (pc' := 256) X907 hx hby at_242 (XT.ii_le_t (by decide)) (by decide) ?_
  refine w_iconst (pc' := 257) (v := 1) X907 hx hby at_256 rfl rfl ?_
  refine w_goto (pc' := 261) X907 hx hby at_257 (by decide) ?_
  exact Rch.retVW X907 hx hS898 (by rw [K907]; exact hk898) Bd.returns rfl (Or.inl ⟨rfl, by simp, _, rfl⟩) (hb hby at_261) (by rw [K907]; exact ⟨rfl, (own_Fr Z0 N908), Kp905, own_chv (s := s) (vm0 := T898.vm) hZ898 hEL X907.warmed IQ898⟩) (by decide) (by decide)
 ·skip
  show Rch p e below T890 (mkF m 53 #[.val (.int ln), .val (.int ya), .val (.int yb), .val (.int yc), .val (.int yd), .val (.int ye), .val (.int 1), .val (.int xa), .val (.int xb), .val (.int xc), .val (.int xd), .val (.int xe), .unset, .unset, .unset, .unset] [(.int xe), (.int xd), (.int xc), (.int xb), (.int xa), (.int 1)]) _
  obtain ⟨_, _, ⟨T909, L909, k909, n909⟩, -, X909, ⟨Lc909, hQ909, l909, y909, z909⟩, st909⟩ := Jvm.LawKit.callS X890 hx (y := (⟨"com/example/fascicle/fascicle/EntriesDirectoryOfPinLaw", "mk", "(ICCCCC)Ljava/lang/String;"⟩ : MethodName)) hown (mvT hZ (wi hw 5 rfl)) (mvT hZ (wi hw 6 rfl)) (mvT hZ (wi hw 3 rfl)) (mvT hZ (wi hw 7 rfl)) (by decide) (backOf (W := 0) (rm_mk_1 l Z a0 hw [] G1 xa xb xc xd xe h0 h0.size Z0f (O2) (P5) (ch_xa) OldF) hZ (wi hw 7 rfl) (wi hw 3 rfl) (by decide) (by decide)) (g := (mkF m 53 #[.val (.int ln), .val (.int ya), .val (.int yb), .val (.int yc), .val (.int yd), .val (.int ye), .val (.int 1), .val (.int xa), .val (.int xb), .val (.int xc), .val (.int xd), .val (.int xe), .unset, .unset, .unset, .unset] [(.int xe), (.int xd), (.int xc), (.int xb), (.int xa), (.int 1)])) rfl (by rw [hml]; rfl) (argsL := [(.int 1), (.int xa), (.int xb), (.int xc), (.int xd), (.int xe)]) (rest := []) (lenOf pd__ICCCCC_Ljava_lang_String_ rfl) rfl (by show 2 * 0 + _ ≤ _; exact Nat.le_of_eq rfl) (hb hby at_53) (fun _ _ => ⟨rfl, K890, (by decide : 0 + 3 ≤ _), (by decide : 0 + 6 ≤ _)⟩)
  dsimp only [Pt.U, Pt.locs, Pt.cells, Pt.slots] at X909 l909 y909 z909 st909 hQ909
  subst l909 y909 z909
  obtain ⟨ra_909, t_909, kt_909, rfl, NQ909, K909, pq909_0, pq909_1, fq909_0, fq909_1, fq909_2, fq909_3⟩ := hQ909
  have N910 := Fr.app N891 NQ909
  have Old913 := OldF.keep K909 all0
  have Kp914 : Keep h0 T909.heap [] := K00.trans K909 all0
  have Z915 := Nat.le_trans Z0f K909.1
  have hk916 := Nat.le_trans hk0 K909.1
  have CH917 := CHv.keep K909 (fun x hx => by cases hx) hI
  refine Rch.st (fun _ k => st909 _ k) ?_
  show Rch p e below T909 (mkF m 56 #[.val (.int ln), .val (.int ya), .val (.int yb), .val (.int yc), .val (.int yd), .val (.int ye), .val (.int 1), .val (.int xa), .val (.int xb), .val (.int xc), .val (.int xd), .val (.int xe), .unset, .unset, .unset, .unset] [(.ref ra_909)]) _
  refine w_astore (pc' := 58) (l' := #[.val (.int ln), .val (.int ya), .val (.int yb), .val (.int yc), .val (.int yd), .val (.int ye), .val (.int 1), .val (.int xa), .val (.int xb), .val (.int xc), .val (.int xd), .val (.int xe), .val (.ref ra_909), .unset, .unset, .unset]) X909 hx hby at_56 rfl rfl rfl ?_
  refine w_aload (pc' := 60) X909 hx hby at_58 rfl rfl rfl ?_
  have f918 : Arv Z T909.heap t_909 kt_909 .byte (1 : Int32) (([own_by xa] : List Int32).map Value.int) (.int (0 : Int32)) := fq909_3
  by_cases hc919 : xa = 47
  ·skip
   obtain ⟨_, _, ⟨T920, L920, k920, n920⟩, -, X920, hSx920, hgx920, ⟨Lc920, hQ920, l920, y920, z920⟩, st920⟩ := callSS X909 hx (y := (⟨"com/example/fascicle/fascicle/Entries", "directoryOf", "(Ljava/lang/String;)Ljava/lang/String;"⟩ : MethodName)) hown (mvT hZ (wi hw 16 rfl)) (mvT hZ (wi hw 17 rfl)) (mvT hZ (wi hw 18 rfl)) (mvT hZ (wi hw 19 rfl)) (by decide) (backOfV (PV := fun vm => CHv Z consts_1 vm T909.heap) (W := 0) (rm_di_zero l Z a0 hw [] G1 G3 ra_909 t_909 kt_909 1 ([own_by xa] : List Int32) T909.heap h0.size Z915 (O2) (P5) (O4) (rG3) fq909_0 fq909_1 fq909_2 f918 (by decide) (by rw [show (1 : Int32).toNatClampNeg = 1 from by decide]; show (if own_by xa = 47 then Int32.ofNat 0 else (-1 : Int32)) = _; rw [if_pos ((own_by47 ch_xa).2 hc919)]; rfl) (by decide) (by decide) Old913) hZ (fun vm hW => own_chv (s := s) (vm0 := s.vm) hZ hEL hW CH917) (wi hw 19 rfl) (wi hw 18 rfl) (by decide) (by decide)) (g := (mkF m 60 #[.val (.int ln), .val (.int ya), .val (.int yb), .val (.int yc), .val (.int yd), .val (.int ye), .val (.int 1), .val (.int xa), .val (.int xb), .val (.int xc), .val (.int xd), .val (.int xe), .val (.ref ra_909), .unset, .unset, .unset] [(.ref ra_909)])) rfl (by rw [hml]; rfl) (argsL := [(.ref ra_909)]) (rest := []) (lenOf pd__Ljava_lang_String__Ljava_lang_String_ rfl) rfl (by show 2 * 0 + _ ≤ _; exact Nat.le_of_eq rfl) (hb hby at_60) (fun _ _ => ⟨rfl, (rfl : T909.heap = T909.heap), (by decide : 3 + 2 ≤ _), (by decide : 6 + 4 ≤ _)⟩)
   dsimp only [Pt.U, Pt.locs, Pt.cells, Pt.slots] at X920 l920 y920 z920 st920 hQ920 hSx920 hgx920
   subst l920 y920 z920
   have hS920 := foldS hS0 (by rw [(rfl : T909.heap = T909.heap)]; exact hk916) hSx920 hgx920
   have hk920 : T920.heap.size ≤ T920.heap.size := Nat.le_refl _
   have hZ920 : Z.Warmed39 (s.setVm T920.vm).vm := State.Warmed39.trans (t := s.setVm s.vm) hZ hSx920.1
   have hown920 : (s.setVm T920.vm).vm.findClass "com/example/fascicle/fascicle/EntriesDirectoryOfPinLaw" = some m.cls := by rw [show (s.setVm T920.vm).vm = T920.vm from rfl, hSx920.1.alike.findClass]; exact hown
   have X920w : Stand p l e room_1 (s.setVm T920.vm) m _ below meth c T920 _ _ _ := X920
   obtain ⟨ra_920, t_920, kt_920, rfl, NQ920, K920, fq920_0, fq920_1, fq920_2, fq920_3, IQ920⟩ := hQ920
   have N921 := Fr.app N910 NQ920
   have Old926 := Old913.keep K920 all0
   have Kp927 : Keep h0 T920.heap [] := Kp914.trans K920 all0
   have Z928 := Nat.le_trans Z915 K920.1
   refine Rch.st (fun _ k => st920.trans k) ?_
   show Rch p e below T920 (mkF m 63 #[.val (.int ln), .val (.int ya), .val (.int yb), .val (.int yc), .val (.int yd), .val (.int ye), .val (.int 1), .val (.int xa), .val (.int xb), .val (.int xc), .val (.int xd), .val (.int xe), .val (.ref ra_909), .unset, .unset, .unset] [(.ref ra_920)]) _
   refine w_astore (pc' := 65) (l' := #[.val (.int ln), .val (.int ya), .val (.int yb), .val (.int yc), .val (.int yd), .val (.int ye), .val (.int 1), .val (.int xa), .val (.int xb), .val (.int xc), .val (.int xd), .val (.int xe), .val (.ref ra_909), .val (.ref ra_920), .unset, .unset]) X920w hx hby at_63 rfl rfl rfl ?_
   refine w_iconst (pc' := 66) (v := (-1)) X920w hx hby at_65 rfl rfl ?_
   refine w_istore (pc' := 68) (l' := #[.val (.int ln), .val (.int ya), .val (.int yb), .val (.int yc), .val (.int yd), .val (.int ye), .val (.int 1), .val (.int xa), .val (.int xb), .val (.int xc), .val (.int xd), .val (.int xe), .val (.ref ra_909), .val (.ref ra_920), .val (.int (-1 : Int32)), .unset]) X920w hx hby at_66 rfl rfl ?_
   refine w_iload (pc' := 70) X920w hx hby at_68 rfl rfl ?_
   refine w_iconst (pc' := 71) (v := 4) X920w hx hby at_70 rfl rfl ?_
   refine w_icmpYes (pc' := 87) X920w hx hby at_71 (XT.ii_le_t (by decide)) (by decide) ?_
   refine w_iload (pc' := 89) X920w hx hby at_87 rfl rfl ?_
   refine w_iconst (pc' := 90) (v := 3) X920w hx hby at_89 rfl rfl ?_
   refine w_icmpYes (pc' := 106) X920w hx hby at_90 (XT.ii_le_t (by decide)) (by decide) ?_
   refine w_iload (pc' := 108) X920w hx hby at_106 rfl rfl ?_
   refine w_iconst (pc' := 109) (v := 2) X920w hx hby at_108 rfl rfl ?_
   refine w_icmpYes (pc' := 125) X920w hx hby at_109 (XT.ii_le_t (by decide)) (by decide) ?_
   refine w_iload (pc' := 127) X920w hx hby at_125 rfl rfl ?_
   refine w_iconst (pc' := 128) (v := 1) X920w hx hby at_127 rfl rfl ?_
   refine w_icmpYes (pc' := 144) X920w hx hby at_128 (XT.ii_le_t (by decide)) (by decide) ?_
   refine w_iload (pc' := 146) X920w hx hby at_144 rfl rfl ?_
   refine w_ifNo (pc' := 149) X920w hx hby at_146 (XT.i0_le_f (by decide)) rfl ?_
   refine w_iload (pc' := 151) X920w hx hby at_149 rfl rfl ?_
   refine w_bipush (pc' := 153) (v := 47) X920w hx hby at_151 rfl rfl ?_
   refine w_icmpNo (pc' := 156) X920w hx hby at_153 (XT.ii_ne_f (hc919)) rfl ?_
   refine w_iconst (pc' := 157) (v := 0) X920w hx hby at_156 rfl rfl ?_
   refine w_istore (pc' := 159) (l' := #[.val (.int ln), .val (.int ya), .val (.int yb), .val (.int yc), .val (.int yd), .val (.int ye), .val (.int 1), .val (.int xa), .val (.int xb), .val (.int xc), .val (.int xd), .val (.int xe), .val (.ref ra_909), .val (.ref ra_920), .val (.int 0), .unset]) X920w hx hby at_157 rfl rfl ?_
   refine w_iload (pc' := 161) X920w hx hby at_159 rfl rfl ?_
   refine w_ifYes (pc' := 168) X920w hx hby at_161 (XT.i0_ge_t (by decide)) (by decide) ?_
   refine w_iload (pc' := 170) X920w hx hby at_168 rfl rfl ?_
   refine w_istore (pc' := 172) (l' := #[.val (.int ln), .val (.int ya), .val (.int yb), .val (.int yc), .val (.int yd), .val (.int ye), .val (.int 1), .val (.int xa), .val (.int xb), .val (.int xc), .val (.int xd), .val (.int xe), .val (.ref ra_909), .val (.ref ra_920), .val (.int 0), .val (.int 0)]) X920w hx hby at_170 rfl rfl ?_
   refine w_aload (pc' := 174) X920w hx hby at_172 rfl rfl rfl ?_
   refine w_nullNo (pc' := 177) X920w hx hby at_174 rfl (fun q => nomatch q) rfl ?_
   refine w_aload (pc' := 179) X920w hx hby at_177 rfl rfl rfl ?_
   obtain ⟨cq929, kq929, q929a, q929b, q929c⟩ := isOf hZ920 (rfl : T920.heap = T920.heap) fq920_0
   obtain ⟨_, _, ⟨T929, L929, k929, n929⟩, -, X929, ⟨Lc929, hQ929, l929, y929, z929⟩, st929⟩ := X920w.virtualBack hx (y := (⟨"java/lang/String", "length", "()I"⟩ : MethodName)) (z := (⟨"java/lang/String", "length", "()I"⟩ : MethodName)) hown920 (mvT hZ920 (wi hw 60 rfl)) (mvT hZ920 (wi hw 26 rfl)) (notFace_of_selects (args := #[]) (mvT hZ920 (wi hw 28 rfl))) (mvT hZ920 (wi hw 28 rfl)) (mvT hZ920 (wi hw 27 rfl)) (by decide) (backOf (W := 0) (rm_length l Z a0 hw [] G1 ra_920 0 t_920 kt_920 0 ([]) (.int 0) T920.heap h0.size Z928 (O2) (P5) fq920_1 (Or.inl rfl) fq920_2 fq920_3 fq920_0 Old926) hZ920 (wi hw 29 rfl) (wi hw 9 rfl) (by decide) (by decide)) q929a q929c (g := (mkF m 179 #[.val (.int ln), .val (.int ya), .val (.int yb), .val (.int yc), .val (.int yd), .val (.int ye), .val (.int 1), .val (.int xa), .val (.int xb), .val (.int xc), .val (.int xd), .val (.int xe), .val (.ref ra_909), .val (.ref ra_920), .val (.int 0), .val (.int 0)] [(.ref ra_920)])) rfl (by rw [hml]; rfl) (Steps.refl _) (argsL := []) (rest := []) (lenOf pd___I rfl) rfl (by show 2 * 0 + _ ≤ _; exact Nat.le_of_eq rfl) (hb hby at_179) (fun _ _ => ⟨rfl, (rfl : T920.heap = T920.heap), (by decide : 5 + 0 ≤ _), (by decide : 10 + 0 ≤ _)⟩)
   dsimp only [Pt.U, Pt.locs, Pt.cells, Pt.slots] at X929 l929 y929 z929 st929 hQ929
   subst l929 y929 z929
   obtain ⟨rfl, NQ929, K929⟩ := hQ929
   have N930 := Fr.app N921 NQ929
   refine Rch.st (fun _ k => st929.trans k) ?_
   show Rch p e below T929 (mkF m 182 #[.val (.int ln), .val (.int ya), .val (.int yb), .val (.int yc), .val (.int yd), .val (.int ye), .val (.int 1), .val (.int xa), .val (.int xb), .val (.int xc), .val (.int xd), .val (.int xe), .val (.ref ra_909), .val (.ref ra_920), .val (.int 0), .val (.int 0)] [(.int ((0 : Int32) >>> ((0 : Int32) &&& 31)))]) _
   refine w_iload (pc' := 184) X929 hx hby at_182 rfl rfl ?_
   refine w_icmpYes (pc' := 189) X929 hx hby at_184 (XT.ii_eq_t (by decide)) (by decide) ?_
   refine w_iload (pc' := 191) X929 hx hby at_189 rfl rfl ?_
   refine w_ifYes (pc' := 205) X929 hx hby at_191 (XT.i0_le_t (by decide)) (by decide) ?_
   refine w_iload (pc' := 207) X929 hx hby at_205 rfl rfl ?_
   refine w_iconst (pc' := 208) (v := 1) X929 hx hby at_207 rfl rfl ?_
   refine w_icmpYes (pc' := 222) X929 hx hby at_208 (XT.ii_le_t (by decide)) (by decide) ?_
   refine w_iload (pc' := 224) X929 hx hby at_222 rfl rfl ?_
   refine w_iconst (pc' := 225) (v := 2) X929 hx hby at_224 rfl rfl ?_
   refine w_icmpYes (pc' := 239) X929 hx hby at_225 (XT.ii_le_t (by decide)) (by decide) ?_
   refine w_iload (pc' := 241) X929 hx hby at_239 rfl rfl ?_
   refine w_iconst (pc' := 242) (v := 3) X929 hx hby at_241 rfl rfl ?_
   refine w_icmpYes (pc' := 256) X929 hx hby at_242 (XT.ii_le_t (by decide)) (by decide) ?_
   refine w_iconst (pc' := 257) (v := 1) X929 hx hby at_256 rfl rfl ?_
   refine w_goto (pc' := 261) X929 hx hby at_257 (by decide) ?_
   exact Rch.retVW X929 hx hS920 (by rw [K929]; exact hk920) Bd.returns rfl (Or.inl ⟨rfl, by simp, _, rfl⟩) (hb hby at_261) (by rw [K929]; exact ⟨rfl, (own_Fr Z0 N930), Kp927, own_chv (s := s) (vm0 := T920.vm) hZ920 hEL X929.warmed IQ920⟩) (by decide) (by decide)
  ·skip
   obtain ⟨_, _, ⟨T931, L931, k931, n931⟩, -, X931, hSx931, hgx931, ⟨Lc931, hQ931, l931, y931, z931⟩, st931⟩ := callSS X909 hx (y := (⟨"com/example/fascicle/fascicle/Entries", "directoryOf", "(Ljava/lang/String;)Ljava/lang/String;"⟩ : MethodName)) hown (mvT hZ (wi hw 16 rfl)) (mvT hZ (wi hw 17 rfl)) (mvT hZ (wi hw 18 rfl)) (mvT hZ (wi hw 19 rfl)) (by decide) (backOfV (PV := fun vm => CHv Z consts_1 vm T909.heap) (W := 0) (rm_di_neg l Z a0 hw [] G1 G3 ra_909 t_909 kt_909 1 ([own_by xa] : List Int32) T909.heap h0.size Z915 (O2) (P5) (O4) (rG3) fq909_0 fq909_1 fq909_2 f918 (by decide) (by rw [show (1 : Int32).toNatClampNeg = 1 from by decide]; show (if own_by xa = 47 then Int32.ofNat 0 else (-1 : Int32)) = _; rw [if_neg (mt (own_by47 ch_xa).1 hc919)]) Old913) hZ (fun vm hW => own_chv (s := s) (vm0 := s.vm) hZ hEL hW CH917) (wi hw 19 rfl) (wi hw 18 rfl) (by decide) (by decide)) (g := (mkF m 60 #[.val (.int ln), .val (.int ya), .val (.int yb), .val (.int yc), .val (.int yd), .val (.int ye), .val (.int 1), .val (.int xa), .val (.int xb), .val (.int xc), .val (.int xd), .val (.int xe), .val (.ref ra_909), .unset, .unset, .unset] [(.ref ra_909)])) rfl (by rw [hml]; rfl) (argsL := [(.ref ra_909)]) (rest := []) (lenOf pd__Ljava_lang_String__Ljava_lang_String_ rfl) rfl (by show 2 * 0 + _ ≤ _; exact Nat.le_of_eq rfl) (hb hby at_60) (fun _ _ => ⟨rfl, (rfl : T909.heap = T909.heap), (by decide : 3 + 2 ≤ _), (by decide : 6 + 4 ≤ _)⟩)
   dsimp only [Pt.U, Pt.locs, Pt.cells, Pt.slots] at X931 l931 y931 z931 st931 hQ931 hSx931 hgx931
   subst l931 y931 z931
   have hS931 := foldS hS0 (by rw [(rfl : T909.heap = T909.heap)]; exact hk916) hSx931 hgx931
   have hk931 : T931.heap.size ≤ T931.heap.size := Nat.le_refl _
   have hZ931 : Z.Warmed39 (s.setVm T931.vm).vm := State.Warmed39.trans (t := s.setVm s.vm) hZ hSx931.1
   have hown931 : (s.setVm T931.vm).vm.findClass "com/example/fascicle/fascicle/EntriesDirectoryOfPinLaw" = some m.cls := by rw [show (s.setVm T931.vm).vm = T931.vm from rfl, hSx931.1.alike.findClass]; exact hown
   have X931w : Stand p l e room_1 (s.setVm T931.vm) m _ below meth c T931 _ _ _ := X931
   obtain ⟨ra_931, t_931, kt_931, rfl, NQ931, K931, fq931_0, fq931_1, fq931_2, fq931_3, IQ931⟩ := hQ931
   have N932 := Fr.app N910 NQ931
   have Old937 := Old913.keep K931 all0
   have Kp938 : Keep h0 T931.heap [] := Kp914.trans K931 all0
   have Z939 := Nat.le_trans Z915 K931.1
   refine Rch.st (fun _ k => st931.trans k) ?_
   show Rch p e below T931 (mkF m 63 #[.val (.int ln), .val (.int ya), .val (.int yb), .val (.int yc), .val (.int yd), .val (.int ye), .val (.int 1), .val (.int xa), .val (.int xb), .val (.int xc), .val (.int xd), .val (.int xe), .val (.ref ra_909), .unset, .unset, .unset] [(.ref ra_931)]) _
   refine w_astore (pc' := 65) (l' := #[.val (.int ln), .val (.int ya), .val (.int yb), .val (.int yc), .val (.int yd), .val (.int ye), .val (.int 1), .val (.int xa), .val (.int xb), .val (.int xc), .val (.int xd), .val (.int xe), .val (.ref ra_909), .val (.ref ra_931), .unset, .unset]) X931w hx hby at_63 rfl rfl rfl ?_
   refine w_iconst (pc' := 66) (v := (-1)) X931w hx hby at_65 rfl rfl ?_
   refine w_istore (pc' := 68) (l' := #[.val (.int ln), .val (.int ya), .val (.int yb), .val (.int yc), .val (.int yd), .val (.int ye), .val (.int 1), .val (.int xa), .val (.int xb), .val (.int xc), .val (.int xd), .val (.int xe), .val (.ref ra_909), .val (.ref ra_931), .val (.int (-1 : Int32)), .unset]) X931w hx hby at_66 rfl rfl ?_
   refine w_iload (pc' := 70) X931w hx hby at_68 rfl rfl ?_
   refine w_iconst (pc' := 71) (v := 4) X931w hx hby at_70 rfl rfl ?_
   refine w_icmpYes (pc' := 87) X931w hx hby at_71 (XT.ii_le_t (by decide)) (by decide) ?_
   refine w_iload (pc' := 89) X931w hx hby at_87 rfl rfl ?_
   refine w_iconst (pc' := 90) (v := 3) X931w hx hby at_89 rfl rfl ?_
   refine w_icmpYes (pc' := 106) X931w hx hby at_90 (XT.ii_le_t (by decide)) (by decide) ?_
   refine w_iload (pc' := 108) X931w hx hby at_106 rfl rfl ?_
   refine w_iconst (pc' := 109) (v := 2) X931w hx hby at_108 rfl rfl ?_
   refine w_icmpYes (pc' := 125) X931w hx hby at_109 (XT.ii_le_t (by decide)) (by decide) ?_
   refine w_iload (pc' := 127) X931w hx hby at_125 rfl rfl ?_
   refine w_iconst (pc' := 128) (v := 1) X931w hx hby at_127 rfl rfl ?_
   refine w_icmpYes (pc' := 144) X931w hx hby at_128 (XT.ii_le_t (by decide)) (by decide) ?_
   refine w_iload (pc' := 146) X931w hx hby at_144 rfl rfl ?_
   refine w_ifNo (pc' := 149) X931w hx hby at_146 (XT.i0_le_f (by decide)) rfl ?_
   refine w_iload (pc' := 151) X931w hx hby at_149 rfl rfl ?_
   refine w_bipush (pc' := 153) (v := 47) X931w hx hby at_151 rfl rfl ?_
   refine w_icmpYes (pc' := 159) X931w hx hby at_153 (XT.ii_ne_t (hc919)) (by decide) ?_
   refine w_iload (pc' := 161) X931w hx hby at_159 rfl rfl ?_
   refine w_ifNo (pc' := 164) X931w hx hby at_161 (XT.i0_ge_f (by decide)) rfl ?_
   refine w_iconst (pc' := 165) (v := 0) X931w hx hby at_164 rfl rfl ?_
   refine w_goto (pc' := 170) X931w hx hby at_165 (by decide) ?_
   refine w_istore (pc' := 172) (l' := #[.val (.int ln), .val (.int ya), .val (.int yb), .val (.int yc), .val (.int yd), .val (.int ye), .val (.int 1), .val (.int xa), .val (.int xb), .val (.int xc), .val (.int xd), .val (.int xe), .val (.ref ra_909), .val (.ref ra_931), .val (.int (-1 : Int32)), .val (.int 0)]) X931w hx hby at_170 rfl rfl ?_
   refine w_aload (pc' := 174) X931w hx hby at_172 rfl rfl rfl ?_
   refine w_nullNo (pc' := 177) X931w hx hby at_174 rfl (fun q => nomatch q) rfl ?_
   refine w_aload (pc' := 179) X931w hx hby at_177 rfl rfl rfl ?_
   obtain ⟨cq940, kq940, q940a, q940b, q940c⟩ := isOf hZ931 (rfl : T931.heap = T931.heap) fq931_0
   obtain ⟨_, _, ⟨T940, L940, k940, n940⟩, -, X940, ⟨Lc940, hQ940, l940, y940, z940⟩, st940⟩ := X931w.virtualBack hx (y := (⟨"java/lang/String", "length", "()I"⟩ : MethodName)) (z := (⟨"java/lang/String", "length", "()I"⟩ : MethodName)) hown931 (mvT hZ931 (wi hw 60 rfl)) (mvT hZ931 (wi hw 26 rfl)) (notFace_of_selects (args := #[]) (mvT hZ931 (wi hw 28 rfl))) (mvT hZ931 (wi hw 28 rfl)) (mvT hZ931 (wi hw 27 rfl)) (by decide) (backOf (W := 0) (rm_length l Z a0 hw [] G1 ra_931 0 t_931 kt_931 0 ([]) (.int 0) T931.heap h0.size Z939 (O2) (P5) fq931_1 (Or.inl rfl) fq931_2 fq931_3 fq931_0 Old937) hZ931 (wi hw 29 rfl) (wi hw 9 rfl) (by decide) (by decide)) q940a q940c (g := (mkF m 179 #[.val (.int ln), .val (.int ya), .val (.int yb), .val (.int yc), .val (.int yd), .val (.int ye), .val (.int 1), .val (.int xa), .val (.int xb), .val (.int xc), .val (.int xd), .val (.int xe), .val (.ref ra_909), .val (.ref ra_931), .val (.int (-1 : Int32)), .val (.int 0)] [(.ref ra_931)])) rfl (by rw [hml]; rfl) (Steps.refl _) (argsL := []) (rest := []) (lenOf pd___I rfl) rfl (by show 2 * 0 + _ ≤ _; exact Nat.le_of_eq rfl) (hb hby at_179) (fun _ _ => ⟨rfl, (rfl : T931.heap = T931.heap), (by decide : 5 + 0 ≤ _), (by decide : 10 + 0 ≤ _)⟩)
   dsimp only [Pt.U, Pt.locs, Pt.cells, Pt.slots] at X940 l940 y940 z940 st940 hQ940
   subst l940 y940 z940
   obtain ⟨rfl, NQ940, K940⟩ := hQ940
   have N941 := Fr.app N932 NQ940
   refine Rch.st (fun _ k => st940.trans k) ?_
   show Rch p e below T940 (mkF m 182 #[.val (.int ln), .val (.int ya), .val (.int yb), .val (.int yc), .val (.int yd), .val (.int ye), .val (.int 1), .val (.int xa), .val (.int xb), .val (.int xc), .val (.int xd), .val (.int xe), .val (.ref ra_909), .val (.ref ra_931), .val (.int (-1 : Int32)), .val (.int 0)] [(.int ((0 : Int32) >>> ((0 : Int32) &&& 31)))]) _
   refine w_iload (pc' := 184) X940 hx hby at_182 rfl rfl ?_
   refine w_icmpYes (pc' := 189) X940 hx hby at_184 (XT.ii_eq_t (by decide)) (by decide) ?_
   refine w_iload (pc' := 191) X940 hx hby at_189 rfl rfl ?_
   refine w_ifYes (pc' := 205) X940 hx hby at_191 (XT.i0_le_t (by decide)) (by decide) ?_
   refine w_iload (pc' := 207) X940 hx hby at_205 rfl rfl ?_
   refine w_iconst (pc' := 208) (v := 1) X940 hx hby at_207 rfl rfl ?_
   refine w_icmpYes (pc' := 222) X940 hx hby at_208 (XT.ii_le_t (by decide)) (by decide) ?_
   refine w_iload (pc' := 224) X940 hx hby at_222 rfl rfl ?_
   refine w_iconst (pc' := 225) (v := 2) X940 hx hby at_224 rfl rfl ?_
   refine w_icmpYes (pc' := 239) X940 hx hby at_225 (XT.ii_le_t (by decide)) (by decide) ?_
   refine w_iload (pc' := 241) X940 hx hby at_239 rfl rfl ?_
   refine w_iconst (pc' := 242) (v := 3) X940 hx hby at_241 rfl rfl ?_
   refine w_icmpYes (pc' := 256) X940 hx hby at_242 (XT.ii_le_t (by decide)) (by decide) ?_
   refine w_iconst (pc' := 257) (v := 1) X940 hx hby at_256 rfl rfl ?_
   refine w_goto (pc' := 261) X940 hx hby at_257 (by decide) ?_
   exact Rch.retVW X940 hx hS931 (by rw [K940]; exact hk931) Bd.returns rfl (Or.inl ⟨rfl, by simp, _, rfl⟩) (hb hby at_261) (by rw [K940]; exact ⟨rfl, (own_Fr Z0 N941), Kp938, own_chv (s := s) (vm0 := T931.vm) hZ931 hEL X940.warmed IQ931⟩) (by decide) (by decide)
 ·skip
  show Rch p e below T890 (mkF m 53 #[.val (.int ln), .val (.int ya), .val (.int yb), .val (.int yc), .val (.int yd), .val (.int ye), .val (.int 2), .val (.int xa), .val (.int xb), .val (.int xc), .val (.int xd), .val (.int xe), .unset, .unset, .unset, .unset] [(.int xe), (.int xd), (.int xc), (.int xb), (.int xa), (.int 2)]) _
  obtain ⟨_, _, ⟨T942, L942, k942, n942⟩, -, X942, ⟨Lc942, hQ942, l942, y942, z942⟩, st942⟩ := Jvm.LawKit.callS X890 hx (y := (⟨"com/example/fascicle/fascicle/EntriesDirectoryOfPinLaw", "mk", "(ICCCCC)Ljava/lang/String;"⟩ : MethodName)) hown (mvT hZ (wi hw 5 rfl)) (mvT hZ (wi hw 6 rfl)) (mvT hZ (wi hw 3 rfl)) (mvT hZ (wi hw 7 rfl)) (by decide) (backOf (W := 0) (rm_mk_2 l Z a0 hw [] G1 xa xb xc xd xe h0 h0.size Z0f (O2) (P5) (ch_xa) (ch_xb) OldF) hZ (wi hw 7 rfl) (wi hw 3 rfl) (by decide) (by decide)) (g := (mkF m 53 #[.val (.int ln), .val (.int ya), .val (.int yb), .val (.int yc), .val (.int yd), .val (.int ye), .val (.int 2), .val (.int xa), .val (.int xb), .val (.int xc), .val (.int xd), .val (.int xe), .unset, .unset, .unset, .unset] [(.int xe), (.int xd), (.int xc), (.int xb), (.int xa), (.int 2)])) rfl (by rw [hml]; rfl) (argsL := [(.int 2), (.int xa), (.int xb), (.int xc), (.int xd), (.int xe)]) (rest := []) (lenOf pd__ICCCCC_Ljava_lang_String_ rfl) rfl (by show 2 * 0 + _ ≤ _; exact Nat.le_of_eq rfl) (hb hby at_53) (fun _ _ => ⟨rfl, K890, (by decide : 0 + 3 ≤ _), (by decide : 0 + 8 ≤ _)⟩)
  dsimp only [Pt.U, Pt.locs, Pt.cells, Pt.slots] at X942 l942 y942 z942 st942 hQ942
  subst l942 y942 z942
  obtain ⟨ra_942, t_942, kt_942, rfl, NQ942, K942, pq942_0, pq942_1, fq942_0, fq942_1, fq942_2, fq942_3⟩ := hQ942
  have N943 := Fr.app N891 NQ942
  have Old946 := OldF.keep K942 all0
  have Kp947 : Keep h0 T942.heap [] := K00.trans K942 all0
  have Z948 := Nat.le_trans Z0f K942.1
  have hk949 := Nat.le_trans hk0 K942.1
  have CH950 := CHv.keep K942 (fun x hx => by cases hx) hI
  refine Rch.st (fun _ k => st942 _ k) ?_
  show Rch p e below T942 (mkF m 56 #[.val (.int ln), .val (.int ya), .val (.int yb), .val (.int yc), .val (.int yd), .val (.int ye), .val (.int 2), .val (.int xa), .val (.int xb), .val (.int xc), .val (.int xd), .val (.int xe), .unset, .unset, .unset, .unset] [(.ref ra_942)]) _
  refine w_astore (pc' := 58) (l' := #[.val (.int ln), .val (.int ya), .val (.int yb), .val (.int yc), .val (.int yd), .val (.int ye), .val (.int 2), .val (.int xa), .val (.int xb), .val (.int xc), .val (.int xd), .val (.int xe), .val (.ref ra_942), .unset, .unset, .unset]) X942 hx hby at_56 rfl rfl rfl ?_
  refine w_aload (pc' := 60) X942 hx hby at_58 rfl rfl rfl ?_
  have f951 : Arv Z T942.heap t_942 kt_942 .byte (2 : Int32) (([own_by xa, own_by xb] : List Int32).map Value.int) (.int (0 : Int32)) := fq942_3
  by_cases hc952 : xb = 47
  ·skip
   obtain ⟨_, _, ⟨T953, L953, k953, n953⟩, -, X953, ⟨Lc953, hQ953, l953, y953, z953⟩, st953⟩ := Jvm.LawKit.callS X942 hx (y := (⟨"com/example/fascicle/fascicle/Entries", "directoryOf", "(Ljava/lang/String;)Ljava/lang/String;"⟩ : MethodName)) hown (mvT hZ (wi hw 16 rfl)) (mvT hZ (wi hw 17 rfl)) (mvT hZ (wi hw 18 rfl)) (mvT hZ (wi hw 19 rfl)) (by decide) (backOf (W := 0) (rm_di_pos l Z a0 hw [] G1 G3 ra_942 t_942 kt_942 2 ([own_by xa, own_by xb] : List Int32) 1 T942.heap h0.size Z948 (O2) (P5) (O4) (rG3) fq942_0 fq942_1 fq942_2 f951 (by decide) (by rw [show (2 : Int32).toNatClampNeg = 2 from by decide]; show (if own_by xb = 47 then Int32.ofNat 1 else (if own_by xa = 47 then Int32.ofNat 0 else (-1 : Int32))) = _; rw [if_pos ((own_by47 ch_xb).2 hc952)]; rfl) (by decide) (by decide) (by decide) (by decide) (by decide) (by decide) (by decide) Old946) hZ (wi hw 19 rfl) (wi hw 18 rfl) (by decide) (by decide)) (g := (mkF m 60 #[.val (.int ln), .val (.int ya), .val (.int yb), .val (.int yc), .val (.int yd), .val (.int ye), .val (.int 2), .val (.int xa), .val (.int xb), .val (.int xc), .val (.int xd), .val (.int xe), .val (.ref ra_942), .unset, .unset, .unset] [(.ref ra_942)])) rfl (by rw [hml]; rfl) (argsL := [(.ref ra_942)]) (rest := []) (lenOf pd__Ljava_lang_String__Ljava_lang_String_ rfl) rfl (by show 2 * 0 + _ ≤ _; exact Nat.le_of_eq rfl) (hb hby at_60) (fun _ _ => ⟨rfl, (rfl : T942.heap = T942.heap), (by decide : 3 + 2 ≤ _), (by decide : 8 + 12 ≤ _)⟩)
   dsimp only [Pt.U, Pt.locs, Pt.cells, Pt.slots] at X953 l953 y953 z953 st953 hQ953
   subst l953 y953 z953
   obtain ⟨ra_953, t_953, kt_953, rfl, NQ953, K953, pq953_0, pq953_1, fq953_0, fq953_1, fq953_2, fq953_3⟩ := hQ953
   have N954 := Fr.app N943 NQ953
   have Old965 := Old946.keep K953 all0
   have Kp966 : Keep h0 T953.heap [] := Kp947.trans K953 all0
   have Z967 := Nat.le_trans Z948 K953.1
   have hk968 := Nat.le_trans hk949 K953.1
   have CH969 := CHv.keep K953 (fun x hx => by cases hx) CH950
   refine Rch.st (fun _ k => st953 _ k) ?_
   show Rch p e below T953 (mkF m 63 #[.val (.int ln), .val (.int ya), .val (.int yb), .val (.int yc), .val (.int yd), .val (.int ye), .val (.int 2), .val (.int xa), .val (.int xb), .val (.int xc), .val (.int xd), .val (.int xe), .val (.ref ra_942), .unset, .unset, .unset] [(.ref ra_953)]) _
   have f970 : Arv Z T953.heap t_953 kt_953 .byte (1 : Int32) [(.int (own_by xa))] (.int (0 : Int32)) := by have z := fq953_3; rw [show own_take (([own_by xa, own_by xb] : List Int32).map Value.int) (.int (0 : Int32)) (1 : Int32).toNatClampNeg = [(.int (own_by xa))] from by rw [show (1 : Int32).toNatClampNeg = 1 from by decide]; rfl] at z; exact z
   refine w_astore (pc' := 65) (l' := #[.val (.int ln), .val (.int ya), .val (.int yb), .val (.int yc), .val (.int yd), .val (.int ye), .val (.int 2), .val (.int xa), .val (.int xb), .val (.int xc), .val (.int xd), .val (.int xe), .val (.ref ra_942), .val (.ref ra_953), .unset, .unset]) X953 hx hby at_63 rfl rfl rfl ?_
   refine w_iconst (pc' := 66) (v := (-1)) X953 hx hby at_65 rfl rfl ?_
   refine w_istore (pc' := 68) (l' := #[.val (.int ln), .val (.int ya), .val (.int yb), .val (.int yc), .val (.int yd), .val (.int ye), .val (.int 2), .val (.int xa), .val (.int xb), .val (.int xc), .val (.int xd), .val (.int xe), .val (.ref ra_942), .val (.ref ra_953), .val (.int (-1 : Int32)), .unset]) X953 hx hby at_66 rfl rfl ?_
   refine w_iload (pc' := 70) X953 hx hby at_68 rfl rfl ?_
   refine w_iconst (pc' := 71) (v := 4) X953 hx hby at_70 rfl rfl ?_
   refine w_icmpYes (pc' := 87) X953 hx hby at_71 (XT.ii_le_t (by decide)) (by decide) ?_
   refine w_iload (pc' := 89) X953 hx hby at_87 rfl rfl ?_
   refine w_iconst (pc' := 90) (v := 3) X953 hx hby at_89 rfl rfl ?_
   refine w_icmpYes (pc' := 106) X953 hx hby at_90 (XT.ii_le_t (by decide)) (by decide) ?_
   refine w_iload (pc' := 108) X953 hx hby at_106 rfl rfl ?_
   refine w_iconst (pc' := 109) (v := 2) X953 hx hby at_108 rfl rfl ?_
   refine w_icmpYes (pc' := 125) X953 hx hby at_109 (XT.ii_le_t (by decide)) (by decide) ?_
   refine w_iload (pc' := 127) X953 hx hby at_125 rfl rfl ?_
   refine w_iconst (pc' := 128) (v := 1) X953 hx hby at_127 rfl rfl ?_
   refine w_icmpNo (pc' := 131) X953 hx hby at_128 (XT.ii_le_f (by decide)) rfl ?_
   refine w_iload (pc' := 133) X953 hx hby at_131 rfl rfl ?_
   refine w_bipush (pc' := 135) (v := 47) X953 hx hby at_133 rfl rfl ?_
   refine w_icmpNo (pc' := 138) X953 hx hby at_135 (XT.ii_ne_f (hc952)) rfl ?_
   refine w_iconst (pc' := 139) (v := 1) X953 hx hby at_138 rfl rfl ?_
   refine w_istore (pc' := 141) (l' := #[.val (.int ln), .val (.int ya), .val (.int yb), .val (.int yc), .val (.int yd), .val (.int ye), .val (.int 2), .val (.int xa), .val (.int xb), .val (.int xc), .val (.int xd), .val (.int xe), .val (.ref ra_942), .val (.ref ra_953), .val (.int 1), .unset]) X953 hx hby at_139 rfl rfl ?_
   refine w_goto (pc' := 159) X953 hx hby at_141 (by decide) ?_
   refine w_iload (pc' := 161) X953 hx hby at_159 rfl rfl ?_
   refine w_ifYes (pc' := 168) X953 hx hby at_161 (XT.i0_ge_t (by decide)) (by decide) ?_
   refine w_iload (pc' := 170) X953 hx hby at_168 rfl rfl ?_
   refine w_istore (pc' := 172) (l' := #[.val (.int ln), .val (.int ya), .val (.int yb), .val (.int yc), .val (.int yd), .val (.int ye), .val (.int 2), .val (.int xa), .val (.int xb), .val (.int xc), .val (.int xd), .val (.int xe), .val (.ref ra_942), .val (.ref ra_953), .val (.int 1), .val (.int 1)]) X953 hx hby at_170 rfl rfl ?_
   refine w_aload (pc' := 174) X953 hx hby at_172 rfl rfl rfl ?_
   refine w_nullNo (pc' := 177) X953 hx hby at_174 rfl (fun q => nomatch q) rfl ?_
   refine w_aload (pc' := 179) X953 hx hby at_177 rfl rfl rfl ?_
   obtain ⟨cq971, kq971, q971a, q971b, q971c⟩ := isOf hZ (rfl : T953.heap = T953.heap) fq953_0
   obtain ⟨_, _, ⟨T971, L971, k971, n971⟩, -, X971, ⟨Lc971, hQ971, l971, y971, z971⟩, st971⟩ := X953.virtualBack hx (y := (⟨"java/lang/String", "length", "()I"⟩ : MethodName)) (z := (⟨"java/lang/String", "length", "()I"⟩ : MethodName)) hown (mvT hZ (wi hw 60 rfl)) (mvT hZ (wi hw 26 rfl)) (notFace_of_selects (args := #[]) (mvT hZ (wi hw 28 rfl))) (mvT hZ (wi hw 28 rfl)) (mvT hZ (wi hw 27 rfl)) (by decide) (backOf (W := 0) (rm_length l Z a0 hw [] G1 ra_953 0 t_953 kt_953 1 ([(.int (own_by xa))]) (.int 0) T953.heap h0.size Z967 (O2) (P5) fq953_1 (Or.inl rfl) fq953_2 f970 fq953_0 Old965) hZ (wi hw 29 rfl) (wi hw 9 rfl) (by decide) (by decide)) q971a q971c (g := (mkF m 179 #[.val (.int ln), .val (.int ya), .val (.int yb), .val (.int yc), .val (.int yd), .val (.int ye), .val (.int 2), .val (.int xa), .val (.int xb), .val (.int xc), .val (.int xd), .val (.int xe), .val (.ref ra_942), .val (.ref ra_953), .val (.int 1), .val (.int 1)] [(.ref ra_953)])) rfl (by rw [hml]; rfl) (Steps.refl _) (argsL := []) (rest := []) (lenOf pd___I rfl) rfl (by show 2 * 0 + _ ≤ _; exact Nat.le_of_eq rfl) (hb hby at_179) (fun _ _ => ⟨rfl, (rfl : T953.heap = T953.heap), (by decide : 5 + 0 ≤ _), (by decide : 20 + 0 ≤ _)⟩)
   dsimp only [Pt.U, Pt.locs, Pt.cells, Pt.slots] at X971 l971 y971 z971 st971 hQ971
   subst l971 y971 z971
   obtain ⟨rfl, NQ971, K971⟩ := hQ971
   have N972 := Fr.app N954 NQ971
   refine Rch.st (fun _ k => st971.trans k) ?_
   show Rch p e below T971 (mkF m 182 #[.val (.int ln), .val (.int ya), .val (.int yb), .val (.int yc), .val (.int yd), .val (.int ye), .val (.int 2), .val (.int xa), .val (.int xb), .val (.int xc), .val (.int xd), .val (.int xe), .val (.ref ra_942), .val (.ref ra_953), .val (.int 1), .val (.int 1)] [(.int ((1 : Int32) >>> ((0 : Int32) &&& 31)))]) _
   refine w_iload (pc' := 184) X971 hx hby at_182 rfl rfl ?_
   refine w_icmpYes (pc' := 189) X971 hx hby at_184 (XT.ii_eq_t (by decide)) (by decide) ?_
   refine w_iload (pc' := 191) X971 hx hby at_189 rfl rfl ?_
   refine w_ifNo (pc' := 194) X971 hx hby at_191 (XT.i0_le_f (by decide)) rfl ?_
   refine w_aload (pc' := 196) X971 hx hby at_194 rfl rfl rfl ?_
   refine w_iconst (pc' := 197) (v := 0) X971 hx hby at_196 rfl rfl ?_
   obtain ⟨cq973, kq973, q973a, q973b, q973c⟩ := isOf hZ K971 fq953_0
   obtain ⟨_, _, ⟨T973, L973, k973, n973⟩, -, X973, ⟨Lc973, hQ973, l973, y973, z973⟩, st973⟩ := X971.virtualBack hx (y := (⟨"java/lang/String", "charAt", "(I)C"⟩ : MethodName)) (z := (⟨"java/lang/String", "charAt", "(I)C"⟩ : MethodName)) hown (mvT hZ (wi hw 118 rfl)) (mvT hZ (wi hw 119 rfl)) (notFace_of_selects (args := #[]) (mvT hZ (wi hw 121 rfl))) (mvT hZ (wi hw 121 rfl)) (mvT hZ (wi hw 120 rfl)) (by decide) (backOf (W := 0) (rm_chA l Z a0 hw [] G1 ra_953 t_953 kt_953 1 ([(.int (own_by xa))]) (.int 0) 0 (own_by xa) G3 T953.heap h0.size Z967 (O2) (P5) (O4) (rG3) fq953_0 fq953_1 fq953_2 f970 (by decide) (by decide) (by rfl) Old965) hZ (wi hw 122 rfl) (wi hw 9 rfl) (by decide) (by decide)) q973a q973c (g := (mkF m 197 #[.val (.int ln), .val (.int ya), .val (.int yb), .val (.int yc), .val (.int yd), .val (.int ye), .val (.int 2), .val (.int xa), .val (.int xb), .val (.int xc), .val (.int xd), .val (.int xe), .val (.ref ra_942), .val (.ref ra_953), .val (.int 1), .val (.int 1)] [(.int 0), (.ref ra_953)])) rfl (by rw [hml]; rfl) (Steps.refl _) (argsL := [(.int 0)]) (rest := []) (lenOf pd__I_C rfl) rfl (by show 2 * 0 + _ ≤ _; exact Nat.le_of_eq rfl) (hb hby at_197) (fun _ _ => ⟨rfl, K971, (by decide : 5 + 0 ≤ _), (by decide : 20 + 0 ≤ _)⟩)
   dsimp only [Pt.U, Pt.locs, Pt.cells, Pt.slots] at X973 l973 y973 z973 st973 hQ973
   subst l973 y973 z973
   obtain ⟨rfl, NQ973, K973⟩ := hQ973
   have N974 := Fr.app N972 NQ973
   refine Rch.st (fun _ k => st973.trans k) ?_
   show Rch p e below T973 (mkF m 200 #[.val (.int ln), .val (.int ya), .val (.int yb), .val (.int yc), .val (.int yd), .val (.int ye), .val (.int 2), .val (.int xa), .val (.int xb), .val (.int xc), .val (.int xd), .val (.int xe), .val (.ref ra_942), .val (.ref ra_953), .val (.int 1), .val (.int 1)] [(.int (nar .char ((own_by xa) &&& (255 : Int32))))]) _
   have r975 : (nar .char ((own_by xa) &&& (255 : Int32))) = xa := ch_xa.by8
   rw [r975]
   show Rch p e below T973 (mkF m 200 #[.val (.int ln), .val (.int ya), .val (.int yb), .val (.int yc), .val (.int yd), .val (.int ye), .val (.int 2), .val (.int xa), .val (.int xb), .val (.int xc), .val (.int xd), .val (.int xe), .val (.ref ra_942), .val (.ref ra_953), .val (.int 1), .val (.int 1)] [(.int xa)]) _
   refine w_iload (pc' := 202) X973 hx hby at_200 rfl rfl ?_
   refine w_icmpNo (pc' := 205) X973 hx hby at_202 (XT.ii_ne_f (rfl)) rfl ?_
   refine w_iload (pc' := 207) X973 hx hby at_205 rfl rfl ?_
   refine w_iconst (pc' := 208) (v := 1) X973 hx hby at_207 rfl rfl ?_
   refine w_icmpYes (pc' := 222) X973 hx hby at_208 (XT.ii_le_t (by decide)) (by decide) ?_
   refine w_iload (pc' := 224) X973 hx hby at_222 rfl rfl ?_
   refine w_iconst (pc' := 225) (v := 2) X973 hx hby at_224 rfl rfl ?_
   refine w_icmpYes (pc' := 239) X973 hx hby at_225 (XT.ii_le_t (by decide)) (by decide) ?_
   refine w_iload (pc' := 241) X973 hx hby at_239 rfl rfl ?_
   refine w_iconst (pc' := 242) (v := 3) X973 hx hby at_241 rfl rfl ?_
   refine w_icmpYes (pc' := 256) X973 hx hby at_242 (XT.ii_le_t (by decide)) (by decide) ?_
   refine w_iconst (pc' := 257) (v := 1) X973 hx hby at_256 rfl rfl ?_
   refine w_goto (pc' := 261) X973 hx hby at_257 (by decide) ?_
   exact Rch.retVW X973 hx hS0 (by rw [K973]; exact hk968) Bd.returns rfl (Or.inl ⟨rfl, by simp, _, rfl⟩) (hb hby at_261) (by rw [K973]; exact ⟨rfl, (own_Fr Z0 N974), Kp966, own_chv (s := s) (vm0 := s.vm) hZ hEL X973.warmed CH969⟩) (by decide) (by decide)
  ·skip
   by_cases hc976 : xa = 47
   ·skip
    obtain ⟨_, _, ⟨T977, L977, k977, n977⟩, -, X977, hSx977, hgx977, ⟨Lc977, hQ977, l977, y977, z977⟩, st977⟩ := callSS X942 hx (y := (⟨"com/example/fascicle/fascicle/Entries", "directoryOf", "(Ljava/lang/String;)Ljava/lang/String;"⟩ : MethodName)) hown (mvT hZ (wi hw 16 rfl)) (mvT hZ (wi hw 17 rfl)) (mvT hZ (wi hw 18 rfl)) (mvT hZ (wi hw 19 rfl)) (by decide) (backOfV (PV := fun vm => CHv Z consts_1 vm T942.heap) (W := 0) (rm_di_zero l Z a0 hw [] G1 G3 ra_942 t_942 kt_942 2 ([own_by xa, own_by xb] : List Int32) T942.heap h0.size Z948 (O2) (P5) (O4) (rG3) fq942_0 fq942_1 fq942_2 f951 (by decide) (by rw [show (2 : Int32).toNatClampNeg = 2 from by decide]; show (if own_by xb = 47 then Int32.ofNat 1 else (if own_by xa = 47 then Int32.ofNat 0 else (-1 : Int32))) = _; rw [if_neg (mt (own_by47 ch_xb).1 hc952), if_pos ((own_by47 ch_xa).2 hc976)]; rfl) (by decide) (by decide) Old946) hZ (fun vm hW => own_chv (s := s) (vm0 := s.vm) hZ hEL hW CH950) (wi hw 19 rfl) (wi hw 18 rfl) (by decide) (by decide)) (g := (mkF m 60 #[.val (.int ln), .val (.int ya), .val (.int yb), .val (.int yc), .val (.int yd), .val (.int ye), .val (.int 2), .val (.int xa), .val (.int xb), .val (.int xc), .val (.int xd), .val (.int xe), .val (.ref ra_942), .unset, .unset, .unset] [(.ref ra_942)])) rfl (by rw [hml]; rfl) (argsL := [(.ref ra_942)]) (rest := []) (lenOf pd__Ljava_lang_String__Ljava_lang_String_ rfl) rfl (by show 2 * 0 + _ ≤ _; exact Nat.le_of_eq rfl) (hb hby at_60) (fun _ _ => ⟨rfl, (rfl : T942.heap = T942.heap), (by decide : 3 + 2 ≤ _), (by decide : 8 + 4 ≤ _)⟩)
    dsimp only [Pt.U, Pt.locs, Pt.cells, Pt.slots] at X977 l977 y977 z977 st977 hQ977 hSx977 hgx977
    subst l977 y977 z977
    have hS977 := foldS hS0 (by rw [(rfl : T942.heap = T942.heap)]; exact hk949) hSx977 hgx977
    have hk977 : T977.heap.size ≤ T977.heap.size := Nat.le_refl _
    have hZ977 : Z.Warmed39 (s.setVm T977.vm).vm := State.Warmed39.trans (t := s.setVm s.vm) hZ hSx977.1
    have hown977 : (s.setVm T977.vm).vm.findClass "com/example/fascicle/fascicle/EntriesDirectoryOfPinLaw" = some m.cls := by rw [show (s.setVm T977.vm).vm = T977.vm from rfl, hSx977.1.alike.findClass]; exact hown
    have X977w : Stand p l e room_1 (s.setVm T977.vm) m _ below meth c T977 _ _ _ := X977
    obtain ⟨ra_977, t_977, kt_977, rfl, NQ977, K977, fq977_0, fq977_1, fq977_2, fq977_3, IQ977⟩ := hQ977
    have N978 := Fr.app N943 NQ977
    have Old983 := Old946.keep K977 all0
    have Kp984 : Keep h0 T977.heap [] := Kp947.trans K977 all0
    have Z985 := Nat.le_trans Z948 K977.1
    refine Rch.st (fun _ k => st977.trans k) ?_
    show Rch p e below T977 (mkF m 63 #[.val (.int ln), .val (.int ya), .val (.int yb), .val (.int yc), .val (.int yd), .val (.int ye), .val (.int 2), .val (.int xa), .val (.int xb), .val (.int xc), .val (.int xd), .val (.int xe), .val (.ref ra_942), .unset, .unset, .unset] [(.ref ra_977)]) _
    refine w_astore (pc' := 65) (l' := #[.val (.int ln), .val (.int ya), .val (.int yb), .val (.int yc), .val (.int yd), .val (.int ye), .val (.int 2), .val (.int xa), .val (.int xb), .val (.int xc), .val (.int xd), .val (.int xe), .val (.ref ra_942), .val (.ref ra_977), .unset, .unset]) X977w hx hby at_63 rfl rfl rfl ?_
    refine w_iconst (pc' := 66) (v := (-1)) X977w hx hby at_65 rfl rfl ?_
    refine w_istore (pc' := 68) (l' := #[.val (.int ln), .val (.int ya), .val (.int yb), .val (.int yc), .val (.int yd), .val (.int ye), .val (.int 2), .val (.int xa), .val (.int xb), .val (.int xc), .val (.int xd), .val (.int xe), .val (.ref ra_942), .val (.ref ra_977), .val (.int (-1 : Int32)), .unset]) X977w hx hby at_66 rfl rfl ?_
    refine w_iload (pc' := 70) X977w hx hby at_68 rfl rfl ?_
    refine w_iconst (pc' := 71) (v := 4) X977w hx hby at_70 rfl rfl ?_
    refine w_icmpYes (pc' := 87) X977w hx hby at_71 (XT.ii_le_t (by decide)) (by decide) ?_
    refine w_iload (pc' := 89) X977w hx hby at_87 rfl rfl ?_
    refine w_iconst (pc' := 90) (v := 3) X977w hx hby at_89 rfl rfl ?_
    refine w_icmpYes (pc' := 106) X977w hx hby at_90 (XT.ii_le_t (by decide)) (by decide) ?_
    refine w_iload (pc' := 108) X977w hx hby at_106 rfl rfl ?_
    refine w_iconst (pc' := 109) (v := 2) X977w hx hby at_108 rfl rfl ?_
    refine w_icmpYes (pc' := 125) X977w hx hby at_109 (XT.ii_le_t (by decide)) (by decide) ?_
    refine w_iload (pc' := 127) X977w hx hby at_125 rfl rfl ?_
    refine w_iconst (pc' := 128) (v := 1) X977w hx hby at_127 rfl rfl ?_
    refine w_icmpNo (pc' := 131) X977w hx hby at_128 (XT.ii_le_f (by decide)) rfl ?_
    refine w_iload (pc' := 133) X977w hx hby at_131 rfl rfl ?_
    refine w_bipush (pc' := 135) (v := 47) X977w hx hby at_133 rfl rfl ?_
    refine w_icmpYes (pc' := 144) X977w hx hby at_135 (XT.ii_ne_t (hc952)) (by decide) ?_
    refine w_iload (pc' := 146) X977w hx hby at_144 rfl rfl ?_
    refine w_ifNo (pc' := 149) X977w hx hby at_146 (XT.i0_le_f (by decide)) rfl ?_
    refine w_iload (pc' := 151) X977w hx hby at_149 rfl rfl ?_
    refine w_bipush (pc' := 153) (v := 47) X977w hx hby at_151 rfl rfl ?_
    refine w_icmpNo (pc' := 156) X977w hx hby at_153 (XT.ii_ne_f (hc976)) rfl ?_
    refine w_iconst (pc' := 157) (v := 0) X977w hx hby at_156 rfl rfl ?_
    refine w_istore (pc' := 159) (l' := #[.val (.int ln), .val (.int ya), .val (.int yb), .val (.int yc), .val (.int yd), .val (.int ye), .val (.int 2), .val (.int xa), .val (.int xb), .val (.int xc), .val (.int xd), .val (.int xe), .val (.ref ra_942), .val (.ref ra_977), .val (.int 0), .unset]) X977w hx hby at_157 rfl rfl ?_
    refine w_iload (pc' := 161) X977w hx hby at_159 rfl rfl ?_
    refine w_ifYes (pc' := 168) X977w hx hby at_161 (XT.i0_ge_t (by decide)) (by decide) ?_
    refine w_iload (pc' := 170) X977w hx hby at_168 rfl rfl ?_
    refine w_istore (pc' := 172) (l' := #[.val (.int ln), .val (.int ya), .val (.int yb), .val (.int yc), .val (.int yd), .val (.int ye), .val (.int 2), .val (.int xa), .val (.int xb), .val (.int xc), .val (.int xd), .val (.int xe), .val (.ref ra_942), .val (.ref ra_977), .val (.int 0), .val (.int 0)]) X977w hx hby at_170 rfl rfl ?_
    refine w_aload (pc' := 174) X977w hx hby at_172 rfl rfl rfl ?_
    refine w_nullNo (pc' := 177) X977w hx hby at_174 rfl (fun q => nomatch q) rfl ?_
    refine w_aload (pc' := 179) X977w hx hby at_177 rfl rfl rfl ?_
    obtain ⟨cq986, kq986, q986a, q986b, q986c⟩ := isOf hZ977 (rfl : T977.heap = T977.heap) fq977_0
    obtain ⟨_, _, ⟨T986, L986, k986, n986⟩, -, X986, ⟨Lc986, hQ986, l986, y986, z986⟩, st986⟩ := X977w.virtualBack hx (y := (⟨"java/lang/String", "length", "()I"⟩ : MethodName)) (z := (⟨"java/lang/String", "length", "()I"⟩ : MethodName)) hown977 (mvT hZ977 (wi hw 60 rfl)) (mvT hZ977 (wi hw 26 rfl)) (notFace_of_selects (args := #[]) (mvT hZ977 (wi hw 28 rfl))) (mvT hZ977 (wi hw 28 rfl)) (mvT hZ977 (wi hw 27 rfl)) (by decide) (backOf (W := 0) (rm_length l Z a0 hw [] G1 ra_977 0 t_977 kt_977 0 ([]) (.int 0) T977.heap h0.size Z985 (O2) (P5) fq977_1 (Or.inl rfl) fq977_2 fq977_3 fq977_0 Old983) hZ977 (wi hw 29 rfl) (wi hw 9 rfl) (by decide) (by decide)) q986a q986c (g := (mkF m 179 #[.val (.int ln), .val (.int ya), .val (.int yb), .val (.int yc), .val (.int yd), .val (.int ye), .val (.int 2), .val (.int xa), .val (.int xb), .val (.int xc), .val (.int xd), .val (.int xe), .val (.ref ra_942), .val (.ref ra_977), .val (.int 0), .val (.int 0)] [(.ref ra_977)])) rfl (by rw [hml]; rfl) (Steps.refl _) (argsL := []) (rest := []) (lenOf pd___I rfl) rfl (by show 2 * 0 + _ ≤ _; exact Nat.le_of_eq rfl) (hb hby at_179) (fun _ _ => ⟨rfl, (rfl : T977.heap = T977.heap), (by decide : 5 + 0 ≤ _), (by decide : 12 + 0 ≤ _)⟩)
    dsimp only [Pt.U, Pt.locs, Pt.cells, Pt.slots] at X986 l986 y986 z986 st986 hQ986
    subst l986 y986 z986
    obtain ⟨rfl, NQ986, K986⟩ := hQ986
    have N987 := Fr.app N978 NQ986
    refine Rch.st (fun _ k => st986.trans k) ?_
    show Rch p e below T986 (mkF m 182 #[.val (.int ln), .val (.int ya), .val (.int yb), .val (.int yc), .val (.int yd), .val (.int ye), .val (.int 2), .val (.int xa), .val (.int xb), .val (.int xc), .val (.int xd), .val (.int xe), .val (.ref ra_942), .val (.ref ra_977), .val (.int 0), .val (.int 0)] [(.int ((0 : Int32) >>> ((0 : Int32) &&& 31)))]) _
    refine w_iload (pc' := 184) X986 hx hby at_182 rfl rfl ?_
    refine w_icmpYes (pc' := 189) X986 hx hby at_184 (XT.ii_eq_t (by decide)) (by decide) ?_
    refine w_iload (pc' := 191) X986 hx hby at_189 rfl rfl ?_
    refine w_ifYes (pc' := 205) X986 hx hby at_191 (XT.i0_le_t (by decide)) (by decide) ?_
    refine w_iload (pc' := 207) X986 hx hby at_205 rfl rfl ?_
    refine w_iconst (pc' := 208) (v := 1) X986 hx hby at_207 rfl rfl ?_
    refine w_icmpYes (pc' := 222) X986 hx hby at_208 (XT.ii_le_t (by decide)) (by decide) ?_
    refine w_iload (pc' := 224) X986 hx hby at_222 rfl rfl ?_
    refine w_iconst (pc' := 225) (v := 2) X986 hx hby at_224 rfl rfl ?_
    refine w_icmpYes (pc' := 239) X986 hx hby at_225 (XT.ii_le_t (by decide)) (by decide) ?_
    refine w_iload (pc' := 241) X986 hx hby at_239 rfl rfl ?_
    refine w_iconst (pc' := 242) (v := 3) X986 hx hby at_241 rfl rfl ?_
    refine w_icmpYes (pc' := 256) X986 hx hby at_242 (XT.ii_le_t (by decide)) (by decide) ?_
    refine w_iconst (pc' := 257) (v := 1) X986 hx hby at_256 rfl rfl ?_
    refine w_goto (pc' := 261) X986 hx hby at_257 (by decide) ?_
    exact Rch.retVW X986 hx hS977 (by rw [K986]; exact hk977) Bd.returns rfl (Or.inl ⟨rfl, by simp, _, rfl⟩) (hb hby at_261) (by rw [K986]; exact ⟨rfl, (own_Fr Z0 N987), Kp984, own_chv (s := s) (vm0 := T977.vm) hZ977 hEL X986.warmed IQ977⟩) (by decide) (by decide)
   ·skip
    obtain ⟨_, _, ⟨T988, L988, k988, n988⟩, -, X988, hSx988, hgx988, ⟨Lc988, hQ988, l988, y988, z988⟩, st988⟩ := callSS X942 hx (y := (⟨"com/example/fascicle/fascicle/Entries", "directoryOf", "(Ljava/lang/String;)Ljava/lang/String;"⟩ : MethodName)) hown (mvT hZ (wi hw 16 rfl)) (mvT hZ (wi hw 17 rfl)) (mvT hZ (wi hw 18 rfl)) (mvT hZ (wi hw 19 rfl)) (by decide) (backOfV (PV := fun vm => CHv Z consts_1 vm T942.heap) (W := 0) (rm_di_neg l Z a0 hw [] G1 G3 ra_942 t_942 kt_942 2 ([own_by xa, own_by xb] : List Int32) T942.heap h0.size Z948 (O2) (P5) (O4) (rG3) fq942_0 fq942_1 fq942_2 f951 (by decide) (by rw [show (2 : Int32).toNatClampNeg = 2 from by decide]; show (if own_by xb = 47 then Int32.ofNat 1 else (if own_by xa = 47 then Int32.ofNat 0 else (-1 : Int32))) = _; rw [if_neg (mt (own_by47 ch_xb).1 hc952), if_neg (mt (own_by47 ch_xa).1 hc976)]) Old946) hZ (fun vm hW => own_chv (s := s) (vm0 := s.vm) hZ hEL hW CH950) (wi hw 19 rfl) (wi hw 18 rfl) (by decide) (by decide)) (g := (mkF m 60 #[.val (.int ln), .val (.int ya), .val (.int yb), .val (.int yc), .val (.int yd), .val (.int ye), .val (.int 2), .val (.int xa), .val (.int xb), .val (.int xc), .val (.int xd), .val (.int xe), .val (.ref ra_942), .unset, .unset, .unset] [(.ref ra_942)])) rfl (by rw [hml]; rfl) (argsL := [(.ref ra_942)]) (rest := []) (lenOf pd__Ljava_lang_String__Ljava_lang_String_ rfl) rfl (by show 2 * 0 + _ ≤ _; exact Nat.le_of_eq rfl) (hb hby at_60) (fun _ _ => ⟨rfl, (rfl : T942.heap = T942.heap), (by decide : 3 + 2 ≤ _), (by decide : 8 + 4 ≤ _)⟩)
    dsimp only [Pt.U, Pt.locs, Pt.cells, Pt.slots] at X988 l988 y988 z988 st988 hQ988 hSx988 hgx988
    subst l988 y988 z988
    have hS988 := foldS hS0 (by rw [(rfl : T942.heap = T942.heap)]; exact hk949) hSx988 hgx988
    have hk988 : T988.heap.size ≤ T988.heap.size := Nat.le_refl _
    have hZ988 : Z.Warmed39 (s.setVm T988.vm).vm := State.Warmed39.trans (t := s.setVm s.vm) hZ hSx988.1
    have hown988 : (s.setVm T988.vm).vm.findClass "com/example/fascicle/fascicle/EntriesDirectoryOfPinLaw" = some m.cls := by rw [show (s.setVm T988.vm).vm = T988.vm from rfl, hSx988.1.alike.findClass]; exact hown
    have X988w : Stand p l e room_1 (s.setVm T988.vm) m _ below meth c T988 _ _ _ := X988
    obtain ⟨ra_988, t_988, kt_988, rfl, NQ988, K988, fq988_0, fq988_1, fq988_2, fq988_3, IQ988⟩ := hQ988
    have N989 := Fr.app N943 NQ988
    have Old994 := Old946.keep K988 all0
    have Kp995 : Keep h0 T988.heap [] := Kp947.trans K988 all0
    have Z996 := Nat.le_trans Z948 K988.1
    refine Rch.st (fun _ k => st988.trans k) ?_
    show Rch p e below T988 (mkF m 63 #[.val (.int ln), .val (.int ya), .val (.int yb), .val (.int yc), .val (.int yd), .val (.int ye), .val (.int 2), .val (.int xa), .val (.int xb), .val (.int xc), .val (.int xd), .val (.int xe), .val (.ref ra_942), .unset, .unset, .unset] [(.ref ra_988)]) _
    refine w_astore (pc' := 65) (l' := #[.val (.int ln), .val (.int ya), .val (.int yb), .val (.int yc), .val (.int yd), .val (.int ye), .val (.int 2), .val (.int xa), .val (.int xb), .val (.int xc), .val (.int xd), .val (.int xe), .val (.ref ra_942), .val (.ref ra_988), .unset, .unset]) X988w hx hby at_63 rfl rfl rfl ?_
    refine w_iconst (pc' := 66) (v := (-1)) X988w hx hby at_65 rfl rfl ?_
    refine w_istore (pc' := 68) (l' := #[.val (.int ln), .val (.int ya), .val (.int yb), .val (.int yc), .val (.int yd), .val (.int ye), .val (.int 2), .val (.int xa), .val (.int xb), .val (.int xc), .val (.int xd), .val (.int xe), .val (.ref ra_942), .val (.ref ra_988), .val (.int (-1 : Int32)), .unset]) X988w hx hby at_66 rfl rfl ?_
    refine w_iload (pc' := 70) X988w hx hby at_68 rfl rfl ?_
    refine w_iconst (pc' := 71) (v := 4) X988w hx hby at_70 rfl rfl ?_
    refine w_icmpYes (pc' := 87) X988w hx hby at_71 (XT.ii_le_t (by decide)) (by decide) ?_
    refine w_iload (pc' := 89) X988w hx hby at_87 rfl rfl ?_
    refine w_iconst (pc' := 90) (v := 3) X988w hx hby at_89 rfl rfl ?_
    refine w_icmpYes (pc' := 106) X988w hx hby at_90 (XT.ii_le_t (by decide)) (by decide) ?_
    refine w_iload (pc' := 108) X988w hx hby at_106 rfl rfl ?_
    refine w_iconst (pc' := 109) (v := 2) X988w hx hby at_108 rfl rfl ?_
    refine w_icmpYes (pc' := 125) X988w hx hby at_109 (XT.ii_le_t (by decide)) (by decide) ?_
    refine w_iload (pc' := 127) X988w hx hby at_125 rfl rfl ?_
    refine w_iconst (pc' := 128) (v := 1) X988w hx hby at_127 rfl rfl ?_
    refine w_icmpNo (pc' := 131) X988w hx hby at_128 (XT.ii_le_f (by decide)) rfl ?_
    refine w_iload (pc' := 133) X988w hx hby at_131 rfl rfl ?_
    refine w_bipush (pc' := 135) (v := 47) X988w hx hby at_133 rfl rfl ?_
    refine w_icmpYes (pc' := 144) X988w hx hby at_135 (XT.ii_ne_t (hc952)) (by decide) ?_
    refine w_iload (pc' := 146) X988w hx hby at_144 rfl rfl ?_
    refine w_ifNo (pc' := 149) X988w hx hby at_146 (XT.i0_le_f (by decide)) rfl ?_
    refine w_iload (pc' := 151) X988w hx hby at_149 rfl rfl ?_
    refine w_bipush (pc' := 153) (v := 47) X988w hx hby at_151 rfl rfl ?_
    refine w_icmpYes (pc' := 159) X988w hx hby at_153 (XT.ii_ne_t (hc976)) (by decide) ?_
    refine w_iload (pc' := 161) X988w hx hby at_159 rfl rfl ?_
    refine w_ifNo (pc' := 164) X988w hx hby at_161 (XT.i0_ge_f (by decide)) rfl ?_
    refine w_iconst (pc' := 165) (v := 0) X988w hx hby at_164 rfl rfl ?_
    refine w_goto (pc' := 170) X988w hx hby at_165 (by decide) ?_
    refine w_istore (pc' := 172) (l' := #[.val (.int ln), .val (.int ya), .val (.int yb), .val (.int yc), .val (.int yd), .val (.int ye), .val (.int 2), .val (.int xa), .val (.int xb), .val (.int xc), .val (.int xd), .val (.int xe), .val (.ref ra_942), .val (.ref ra_988), .val (.int (-1 : Int32)), .val (.int 0)]) X988w hx hby at_170 rfl rfl ?_
    refine w_aload (pc' := 174) X988w hx hby at_172 rfl rfl rfl ?_
    refine w_nullNo (pc' := 177) X988w hx hby at_174 rfl (fun q => nomatch q) rfl ?_
    refine w_aload (pc' := 179) X988w hx hby at_177 rfl rfl rfl ?_
    obtain ⟨cq997, kq997, q997a, q997b, q997c⟩ := isOf hZ988 (rfl : T988.heap = T988.heap) fq988_0
    obtain ⟨_, _, ⟨T997, L997, k997, n997⟩, -, X997, ⟨Lc997, hQ997, l997, y997, z997⟩, st997⟩ := X988w.virtualBack hx (y := (⟨"java/lang/String", "length", "()I"⟩ : MethodName)) (z := (⟨"java/lang/String", "length", "()I"⟩ : MethodName)) hown988 (mvT hZ988 (wi hw 60 rfl)) (mvT hZ988 (wi hw 26 rfl)) (notFace_of_selects (args := #[]) (mvT hZ988 (wi hw 28 rfl))) (mvT hZ988 (wi hw 28 rfl)) (mvT hZ988 (wi hw 27 rfl)) (by decide) (backOf (W := 0) (rm_length l Z a0 hw [] G1 ra_988 0 t_988 kt_988 0 ([]) (.int 0) T988.heap h0.size Z996 (O2) (P5) fq988_1 (Or.inl rfl) fq988_2 fq988_3 fq988_0 Old994) hZ988 (wi hw 29 rfl) (wi hw 9 rfl) (by decide) (by decide)) q997a q997c (g := (mkF m 179 #[.val (.int ln), .val (.int ya), .val (.int yb), .val (.int yc), .val (.int yd), .val (.int ye), .val (.int 2), .val (.int xa), .val (.int xb), .val (.int xc), .val (.int xd), .val (.int xe), .val (.ref ra_942), .val (.ref ra_988), .val (.int (-1 : Int32)), .val (.int 0)] [(.ref ra_988)])) rfl (by rw [hml]; rfl) (Steps.refl _) (argsL := []) (rest := []) (lenOf pd___I rfl) rfl (by show 2 * 0 + _ ≤ _; exact Nat.le_of_eq rfl) (hb hby at_179) (fun _ _ => ⟨rfl, (rfl : T988.heap = T988.heap), (by decide : 5 + 0 ≤ _), (by decide : 12 + 0 ≤ _)⟩)
    dsimp only [Pt.U, Pt.locs, Pt.cells, Pt.slots] at X997 l997 y997 z997 st997 hQ997
    subst l997 y997 z997
    obtain ⟨rfl, NQ997, K997⟩ := hQ997
    have N998 := Fr.app N989 NQ997
    refine Rch.st (fun _ k => st997.trans k) ?_
    show Rch p e below T997 (mkF m 182 #[.val (.int ln), .val (.int ya), .val (.int yb), .val (.int yc), .val (.int yd), .val (.int ye), .val (.int 2), .val (.int xa), .val (.int xb), .val (.int xc), .val (.int xd), .val (.int xe), .val (.ref ra_942), .val (.ref ra_988), .val (.int (-1 : Int32)), .val (.int 0)] [(.int ((0 : Int32) >>> ((0 : Int32) &&& 31)))]) _
    refine w_iload (pc' := 184) X997 hx hby at_182 rfl rfl ?_
    refine w_icmpYes (pc' := 189) X997 hx hby at_184 (XT.ii_eq_t (by decide)) (by decide) ?_
    refine w_iload (pc' := 191) X997 hx hby at_189 rfl rfl ?_
    refine w_ifYes (pc' := 205) X997 hx hby at_191 (XT.i0_le_t (by decide)) (by decide) ?_
    refine w_iload (pc' := 207) X997 hx hby at_205 rfl rfl ?_
    refine w_iconst (pc' := 208) (v := 1) X997 hx hby at_207 rfl rfl ?_
    refine w_icmpYes (pc' := 222) X997 hx hby at_208 (XT.ii_le_t (by decide)) (by decide) ?_
    refine w_iload (pc' := 224) X997 hx hby at_222 rfl rfl ?_
    refine w_iconst (pc' := 225) (v := 2) X997 hx hby at_224 rfl rfl ?_
    refine w_icmpYes (pc' := 239) X997 hx hby at_225 (XT.ii_le_t (by decide)) (by decide) ?_
    refine w_iload (pc' := 241) X997 hx hby at_239 rfl rfl ?_
    refine w_iconst (pc' := 242) (v := 3) X997 hx hby at_241 rfl rfl ?_
    refine w_icmpYes (pc' := 256) X997 hx hby at_242 (XT.ii_le_t (by decide)) (by decide) ?_
    refine w_iconst (pc' := 257) (v := 1) X997 hx hby at_256 rfl rfl ?_
    refine w_goto (pc' := 261) X997 hx hby at_257 (by decide) ?_
    exact Rch.retVW X997 hx hS988 (by rw [K997]; exact hk988) Bd.returns rfl (Or.inl ⟨rfl, by simp, _, rfl⟩) (hb hby at_261) (by rw [K997]; exact ⟨rfl, (own_Fr Z0 N998), Kp995, own_chv (s := s) (vm0 := T988.vm) hZ988 hEL X997.warmed IQ988⟩) (by decide) (by decide)
 ·skip
  show Rch p e below T890 (mkF m 53 #[.val (.int ln), .val (.int ya), .val (.int yb), .val (.int yc), .val (.int yd), .val (.int ye), .val (.int 3), .val (.int xa), .val (.int xb), .val (.int xc), .val (.int xd), .val (.int xe), .unset, .unset, .unset, .unset] [(.int xe), (.int xd), (.int xc), (.int xb), (.int xa), (.int 3)]) _
  obtain ⟨_, _, ⟨T999, L999, k999, n999⟩, -, X999, ⟨Lc999, hQ999, l999, y999, z999⟩, st999⟩ := Jvm.LawKit.callS X890 hx (y := (⟨"com/example/fascicle/fascicle/EntriesDirectoryOfPinLaw", "mk", "(ICCCCC)Ljava/lang/String;"⟩ : MethodName)) hown (mvT hZ (wi hw 5 rfl)) (mvT hZ (wi hw 6 rfl)) (mvT hZ (wi hw 3 rfl)) (mvT hZ (wi hw 7 rfl)) (by decide) (backOf (W := 0) (rm_mk_3 l Z a0 hw [] G1 xa xb xc xd xe h0 h0.size Z0f (O2) (P5) (ch_xa) (ch_xb) (ch_xc) OldF) hZ (wi hw 7 rfl) (wi hw 3 rfl) (by decide) (by decide)) (g := (mkF m 53 #[.val (.int ln), .val (.int ya), .val (.int yb), .val (.int yc), .val (.int yd), .val (.int ye), .val (.int 3), .val (.int xa), .val (.int xb), .val (.int xc), .val (.int xd), .val (.int xe), .unset, .unset, .unset, .unset] [(.int xe), (.int xd), (.int xc), (.int xb), (.int xa), (.int 3)])) rfl (by rw [hml]; rfl) (argsL := [(.int 3), (.int xa), (.int xb), (.int xc), (.int xd), (.int xe)]) (rest := []) (lenOf pd__ICCCCC_Ljava_lang_String_ rfl) rfl (by show 2 * 0 + _ ≤ _; exact Nat.le_of_eq rfl) (hb hby at_53) (fun _ _ => ⟨rfl, K890, (by decide : 0 + 3 ≤ _), (by decide : 0 + 10 ≤ _)⟩)
  dsimp only [Pt.U, Pt.locs, Pt.cells, Pt.slots] at X999 l999 y999 z999 st999 hQ999
  subst l999 y999 z999
  obtain ⟨ra_999, t_999, kt_999, rfl, NQ999, K999, pq999_0, pq999_1, fq999_0, fq999_1, fq999_2, fq999_3⟩ := hQ999
  have N1000 := Fr.app N891 NQ999
  have Old1003 := OldF.keep K999 all0
  have Kp1004 : Keep h0 T999.heap [] := K00.trans K999 all0
  have Z1005 := Nat.le_trans Z0f K999.1
  have hk1006 := Nat.le_trans hk0 K999.1
  have CH1007 := CHv.keep K999 (fun x hx => by cases hx) hI
  refine Rch.st (fun _ k => st999 _ k) ?_
  show Rch p e below T999 (mkF m 56 #[.val (.int ln), .val (.int ya), .val (.int yb), .val (.int yc), .val (.int yd), .val (.int ye), .val (.int 3), .val (.int xa), .val (.int xb), .val (.int xc), .val (.int xd), .val (.int xe), .unset, .unset, .unset, .unset] [(.ref ra_999)]) _
  refine w_astore (pc' := 58) (l' := #[.val (.int ln), .val (.int ya), .val (.int yb), .val (.int yc), .val (.int yd), .val (.int ye), .val (.int 3), .val (.int xa), .val (.int xb), .val (.int xc), .val (.int xd), .val (.int xe), .val (.ref ra_999), .unset, .unset, .unset]) X999 hx hby at_56 rfl rfl rfl ?_
  refine w_aload (pc' := 60) X999 hx hby at_58 rfl rfl rfl ?_
  have f1008 : Arv Z T999.heap t_999 kt_999 .byte (3 : Int32) (([own_by xa, own_by xb, own_by xc] : List Int32).map Value.int) (.int (0 : Int32)) := fq999_3
  by_cases hc1009 : xc = 47
  ·skip
   obtain ⟨_, _, ⟨T1010, L1010, k1010, n1010⟩, -, X1010, ⟨Lc1010, hQ1010, l1010, y1010, z1010⟩, st1010⟩ := Jvm.LawKit.callS X999 hx (y := (⟨"com/example/fascicle/fascicle/Entries", "directoryOf", "(Ljava/lang/String;)Ljava/lang/String;"⟩ : MethodName)) hown (mvT hZ (wi hw 16 rfl)) (mvT hZ (wi hw 17 rfl)) (mvT hZ (wi hw 18 rfl)) (mvT hZ (wi hw 19 rfl)) (by decide) (backOf (W := 0) (rm_di_pos l Z a0 hw [] G1 G3 ra_999 t_999 kt_999 3 ([own_by xa, own_by xb, own_by xc] : List Int32) 2 T999.heap h0.size Z1005 (O2) (P5) (O4) (rG3) fq999_0 fq999_1 fq999_2 f1008 (by decide) (by rw [show (3 : Int32).toNatClampNeg = 3 from by decide]; show (if own_by xc = 47 then Int32.ofNat 2 else (if own_by xb = 47 then Int32.ofNat 1 else (if own_by xa = 47 then Int32.ofNat 0 else (-1 : Int32)))) = _; rw [if_pos ((own_by47 ch_xc).2 hc1009)]; rfl) (by decide) (by decide) (by decide) (by decide) (by decide) (by decide) (by decide) Old1003) hZ (wi hw 19 rfl) (wi hw 18 rfl) (by decide) (by decide)) (g := (mkF m 60 #[.val (.int ln), .val (.int ya), .val (.int yb), .val (.int yc), .val (.int yd), .val (.int ye), .val (.int 3), .val (.int xa), .val (.int xb), .val (.int xc), .val (.int xd), .val (.int xe), .val (.ref ra_999), .unset, .unset, .unset] [(.ref ra_999)])) rfl (by rw [hml]; rfl) (argsL := [(.ref ra_999)]) (rest := []) (lenOf pd__Ljava_lang_String__Ljava_lang_String_ rfl) rfl (by show 2 * 0 + _ ≤ _; exact Nat.le_of_eq rfl) (hb hby at_60) (fun _ _ => ⟨rfl, (rfl : T999.heap = T999.heap), (by decide : 3 + 2 ≤ _), (by decide : 10 + 12 ≤ _)⟩)
   dsimp only [Pt.U, Pt.locs, Pt.cells, Pt.slots] at X1010 l1010 y1010 z1010 st1010 hQ1010
   subst l1010 y1010 z1010
   obtain ⟨ra_1010, t_1010, kt_1010, rfl, NQ1010, K1010, pq1010_0, pq1010_1, fq1010_0, fq1010_1, fq1010_2, fq1010_3⟩ := hQ1010
   have N1011 := Fr.app N1000 NQ1010
   have Old1022 := Old1003.keep K1010 all0
   have Kp1023 : Keep h0 T1010.heap [] := Kp1004.trans K1010 all0
   have Z1024 := Nat.le_trans Z1005 K1010.1
   have hk1025 := Nat.le_trans hk1006 K1010.1
   have CH1026 := CHv.keep K1010 (fun x hx => by cases hx) CH1007
   refine Rch.st (fun _ k => st1010 _ k) ?_
   show Rch p e below T1010 (mkF m 63 #[.val (.int ln), .val (.int ya), .val (.int yb), .val (.int yc), .val (.int yd), .val (.int ye), .val (.int 3), .val (.int xa), .val (.int xb), .val (.int xc), .val (.int xd), .val (.int xe), .val (.ref ra_999), .unset, .unset, .unset] [(.ref ra_1010)]) _
   have f1027 : Arv Z T1010.heap t_1010 kt_1010 .byte (2 : Int32) [(.int (own_by xa)), (.int (own_by xb))] (.int (0 : Int32)) := by have z := fq1010_3; rw [show own_take (([own_by xa, own_by xb, own_by xc] : List Int32).map Value.int) (.int (0 : Int32)) (2 : Int32).toNatClampNeg = [(.int (own_by xa)), (.int (own_by xb))] from by rw [show (2 : Int32).toNatClampNeg = 2 from by decide]; rfl] at z; exact z
   refine w_astore (pc' := 65) (l' := #[.val (.int ln), .val (.int ya), .val (.int yb), .val (.int yc), .val (.int yd), .val (.int ye), .val (.int 3), .val (.int xa), .val (.int xb), .val (.int xc), .val (.int xd), .val (.int xe), .val (.ref ra_999), .val (.ref ra_1010), .unset, .unset]) X1010 hx hby at_63 rfl rfl rfl ?_
   refine w_iconst (pc' := 66) (v := (-1)) X1010 hx hby at_65 rfl rfl ?_
   refine w_istore (pc' := 68) (l' := #[.val (.int ln), .val (.int ya), .val (.int yb), .val (.int yc), .val (.int yd), .val (.int ye), .val (.int 3), .val (.int xa), .val (.int xb), .val (.int xc), .val (.int xd), .val (.int xe), .val (.ref ra_999), .val (.ref ra_1010), .val (.int (-1 : Int32)), .unset]) X1010 hx hby at_66 rfl rfl ?_
   refine w_iload (pc' := 70) X1010 hx hby at_68 rfl rfl ?_
   refine w_iconst (pc' := 71) (v := 4) X1010 hx hby at_70 rfl rfl ?_
   refine w_icmpYes (pc' := 87) X1010 hx hby at_71 (XT.ii_le_t (by decide)) (by decide) ?_
   refine w_iload (pc' := 89) X1010 hx hby at_87 rfl rfl ?_
   refine w_iconst (pc' := 90) (v := 3) X1010 hx hby at_89 rfl rfl ?_
   refine w_icmpYes (pc' := 106) X1010 hx hby at_90 (XT.ii_le_t (by decide)) (by decide) ?_
   refine w_iload (pc' := 108) X1010 hx hby at_106 rfl rfl ?_
   refine w_iconst (pc' := 109) (v := 2) X1010 hx hby at_108 rfl rfl ?_
   refine w_icmpNo (pc' := 112) X1010 hx hby at_109 (XT.ii_le_f (by decide)) rfl ?_
   refine w_iload (pc' := 114) X1010 hx hby at_112 rfl rfl ?_
   refine w_bipush (pc' := 116) (v := 47) X1010 hx hby at_114 rfl rfl ?_
   refine w_icmpNo (pc' := 119) X1010 hx hby at_116 (XT.ii_ne_f (hc1009)) rfl ?_
   refine w_iconst (pc' := 120) (v := 2) X1010 hx hby at_119 rfl rfl ?_
   refine w_istore (pc' := 122) (l' := #[.val (.int ln), .val (.int ya), .val (.int yb), .val (.int yc), .val (.int yd), .val (.int ye), .val (.int 3), .val (.int xa), .val (.int xb), .val (.int xc), .val (.int xd), .val (.int xe), .val (.ref ra_999), .val (.ref ra_1010), .val (.int 2), .unset]) X1010 hx hby at_120 rfl rfl ?_
   refine w_goto (pc' := 159) X1010 hx hby at_122 (by decide) ?_
   refine w_iload (pc' := 161) X1010 hx hby at_159 rfl rfl ?_
   refine w_ifYes (pc' := 168) X1010 hx hby at_161 (XT.i0_ge_t (by decide)) (by decide) ?_
   refine w_iload (pc' := 170) X1010 hx hby at_168 rfl rfl ?_
   refine w_istore (pc' := 172) (l' := #[.val (.int ln), .val (.int ya), .val (.int yb), .val (.int yc), .val (.int yd), .val (.int ye), .val (.int 3), .val (.int xa), .val (.int xb), .val (.int xc), .val (.int xd), .val (.int xe), .val (.ref ra_999), .val (.ref ra_1010), .val (.int 2), .val (.int 2)]) X1010 hx hby at_170 rfl rfl ?_
   refine w_aload (pc' := 174) X1010 hx hby at_172 rfl rfl rfl ?_
   refine w_nullNo (pc' := 177) X1010 hx hby at_174 rfl (fun q => nomatch q) rfl ?_
   refine w_aload (pc' := 179) X1010 hx hby at_177 rfl rfl rfl ?_
   obtain ⟨cq1028, kq1028, q1028a, q1028b, q1028c⟩ := isOf hZ (rfl : T1010.heap = T1010.heap) fq1010_0
   obtain ⟨_, _, ⟨T1028, L1028, k1028, n1028⟩, -, X1028, ⟨Lc1028, hQ1028, l1028, y1028, z1028⟩, st1028⟩ := X1010.virtualBack hx (y := (⟨"java/lang/String", "length", "()I"⟩ : MethodName)) (z := (⟨"java/lang/String", "length", "()I"⟩ : MethodName)) hown (mvT hZ (wi hw 60 rfl)) (mvT hZ (wi hw 26 rfl)) (notFace_of_selects (args := #[]) (mvT hZ (wi hw 28 rfl))) (mvT hZ (wi hw 28 rfl)) (mvT hZ (wi hw 27 rfl)) (by decide) (backOf (W := 0) (rm_length l Z a0 hw [] G1 ra_1010 0 t_1010 kt_1010 2 ([(.int (own_by xa)), (.int (own_by xb))]) (.int 0) T1010.heap h0.size Z1024 (O2) (P5) fq1010_1 (Or.inl rfl) fq1010_2 f1027 fq1010_0 Old1022) hZ (wi hw 29 rfl) (wi hw 9 rfl) (by decide) (by decide)) q1028a q1028c (g := (mkF m 179 #[.val (.int ln), .val (.int ya), .val (.int yb), .val (.int yc), .val (.int yd), .val (.int ye), .val (.int 3), .val (.int xa), .val (.int xb), .val (.int xc), .val (.int xd), .val (.int xe), .val (.ref ra_999), .val (.ref ra_1010), .val (.int 2), .val (.int 2)] [(.ref ra_1010)])) rfl (by rw [hml]; rfl) (Steps.refl _) (argsL := []) (rest := []) (lenOf pd___I rfl) rfl (by show 2 * 0 + _ ≤ _; exact Nat.le_of_eq rfl) (hb hby at_179) (fun _ _ => ⟨rfl, (rfl : T1010.heap = T1010.heap), (by decide : 5 + 0 ≤ _), (by decide : 22 + 0 ≤ _)⟩)
   dsimp only [Pt.U, Pt.locs, Pt.cells, Pt.slots] at X1028 l1028 y1028 z1028 st1028 hQ1028
   subst l1028 y1028 z1028
   obtain ⟨rfl, NQ1028, K1028⟩ := hQ1028
   have N1029 := Fr.app N1011 NQ1028
   refine Rch.st (fun _ k => st1028.trans k) ?_
   show Rch p e below T1028 (mkF m 182 #[.val (.int ln), .val (.int ya), .val (.int yb), .val (.int yc), .val (.int yd), .val (.int ye), .val (.int 3), .val (.int xa), .val (.int xb), .val (.int xc), .val (.int xd), .val (.int xe), .val (.ref ra_999), .val (.ref ra_1010), .val (.int 2), .val (.int 2)] [(.int ((2 : Int32) >>> ((0 : Int32) &&& 31)))]) _
   refine w_iload (pc' := 184) X1028 hx hby at_182 rfl rfl ?_
   refine w_icmpYes (pc' := 189) X1028 hx hby at_184 (XT.ii_eq_t (by decide)) (by decide) ?_
   refine w_iload (pc' := 191) X1028 hx hby at_189 rfl rfl ?_
   refine w_ifNo (pc' := 194) X1028 hx hby at_191 (XT.i0_le_f (by decide)) rfl ?_
   refine w_aload (pc' := 196) X1028 hx hby at_194 rfl rfl rfl ?_
   refine w_iconst (pc' := 197) (v := 0) X1028 hx hby at_196 rfl rfl ?_
   obtain ⟨cq1030, kq1030, q1030a, q1030b, q1030c⟩ := isOf hZ K1028 fq1010_0
   obtain ⟨_, _, ⟨T1030, L1030, k1030, n1030⟩, -, X1030, ⟨Lc1030, hQ1030, l1030, y1030, z1030⟩, st1030⟩ := X1028.virtualBack hx (y := (⟨"java/lang/String", "charAt", "(I)C"⟩ : MethodName)) (z := (⟨"java/lang/String", "charAt", "(I)C"⟩ : MethodName)) hown (mvT hZ (wi hw 118 rfl)) (mvT hZ (wi hw 119 rfl)) (notFace_of_selects (args := #[]) (mvT hZ (wi hw 121 rfl))) (mvT hZ (wi hw 121 rfl)) (mvT hZ (wi hw 120 rfl)) (by decide) (backOf (W := 0) (rm_chA l Z a0 hw [] G1 ra_1010 t_1010 kt_1010 2 ([(.int (own_by xa)), (.int (own_by xb))]) (.int 0) 0 (own_by xa) G3 T1010.heap h0.size Z1024 (O2) (P5) (O4) (rG3) fq1010_0 fq1010_1 fq1010_2 f1027 (by decide) (by decide) (by rfl) Old1022) hZ (wi hw 122 rfl) (wi hw 9 rfl) (by decide) (by decide)) q1030a q1030c (g := (mkF m 197 #[.val (.int ln), .val (.int ya), .val (.int yb), .val (.int yc), .val (.int yd), .val (.int ye), .val (.int 3), .val (.int xa), .val (.int xb), .val (.int xc), .val (.int xd), .val (.int xe), .val (.ref ra_999), .val (.ref ra_1010), .val (.int 2), .val (.int 2)] [(.int 0), (.ref ra_1010)])) rfl (by rw [hml]; rfl) (Steps.refl _) (argsL := [(.int 0)]) (rest := []) (lenOf pd__I_C rfl) rfl (by show 2 * 0 + _ ≤ _; exact Nat.le_of_eq rfl) (hb hby at_197) (fun _ _ => ⟨rfl, K1028, (by decide : 5 + 0 ≤ _), (by decide : 22 + 0 ≤ _)⟩)
   dsimp only [Pt.U, Pt.locs, Pt.cells, Pt.slots] at X1030 l1030 y1030 z1030 st1030 hQ1030
   subst l1030 y1030 z1030
   obtain ⟨rfl, NQ1030, K1030⟩ := hQ1030
   have N1031 := Fr.app N1029 NQ1030
   refine Rch.st (fun _ k => st1030.trans k) ?_
   show Rch p e below T1030 (mkF m 200 #[.val (.int ln), .val (.int ya), .val (.int yb), .val (.int yc), .val (.int yd), .val (.int ye), .val (.int 3), .val (.int xa), .val (.int xb), .val (.int xc), .val (.int xd), .val (.int xe), .val (.ref ra_999), .val (.ref ra_1010), .val (.int 2), .val (.int 2)] [(.int (nar .char ((own_by xa) &&& (255 : Int32))))]) _
   have r1032 : (nar .char ((own_by xa) &&& (255 : Int32))) = xa := ch_xa.by8
   rw [r1032]
   show Rch p e below T1030 (mkF m 200 #[.val (.int ln), .val (.int ya), .val (.int yb), .val (.int yc), .val (.int yd), .val (.int ye), .val (.int 3), .val (.int xa), .val (.int xb), .val (.int xc), .val (.int xd), .val (.int xe), .val (.ref ra_999), .val (.ref ra_1010), .val (.int 2), .val (.int 2)] [(.int xa)]) _
   refine w_iload (pc' := 202) X1030 hx hby at_200 rfl rfl ?_
   refine w_icmpNo (pc' := 205) X1030 hx hby at_202 (XT.ii_ne_f (rfl)) rfl ?_
   refine w_iload (pc' := 207) X1030 hx hby at_205 rfl rfl ?_
   refine w_iconst (pc' := 208) (v := 1) X1030 hx hby at_207 rfl rfl ?_
   refine w_icmpNo (pc' := 211) X1030 hx hby at_208 (XT.ii_le_f (by decide)) rfl ?_
   refine w_aload (pc' := 213) X1030 hx hby at_211 rfl rfl rfl ?_
   refine w_iconst (pc' := 214) (v := 1) X1030 hx hby at_213 rfl rfl ?_
   obtain ⟨cq1033, kq1033, q1033a, q1033b, q1033c⟩ := isOf hZ K1030 fq1010_0
   obtain ⟨_, _, ⟨T1033, L1033, k1033, n1033⟩, -, X1033, ⟨Lc1033, hQ1033, l1033, y1033, z1033⟩, st1033⟩ := X1030.virtualBack hx (y := (⟨"java/lang/String", "charAt", "(I)C"⟩ : MethodName)) (z := (⟨"java/lang/String", "charAt", "(I)C"⟩ : MethodName)) hown (mvT hZ (wi hw 118 rfl)) (mvT hZ (wi hw 119 rfl)) (notFace_of_selects (args := #[]) (mvT hZ (wi hw 121 rfl))) (mvT hZ (wi hw 121 rfl)) (mvT hZ (wi hw 120 rfl)) (by decide) (backOf (W := 0) (rm_chA l Z a0 hw [] G1 ra_1010 t_1010 kt_1010 2 ([(.int (own_by xa)), (.int (own_by xb))]) (.int 0) 1 (own_by xb) G3 T1010.heap h0.size Z1024 (O2) (P5) (O4) (rG3) fq1010_0 fq1010_1 fq1010_2 f1027 (by decide) (by decide) (by rfl) Old1022) hZ (wi hw 122 rfl) (wi hw 9 rfl) (by decide) (by decide)) q1033a q1033c (g := (mkF m 214 #[.val (.int ln), .val (.int ya), .val (.int yb), .val (.int yc), .val (.int yd), .val (.int ye), .val (.int 3), .val (.int xa), .val (.int xb), .val (.int xc), .val (.int xd), .val (.int xe), .val (.ref ra_999), .val (.ref ra_1010), .val (.int 2), .val (.int 2)] [(.int 1), (.ref ra_1010)])) rfl (by rw [hml]; rfl) (Steps.refl _) (argsL := [(.int 1)]) (rest := []) (lenOf pd__I_C rfl) rfl (by show 2 * 0 + _ ≤ _; exact Nat.le_of_eq rfl) (hb hby at_214) (fun _ _ => ⟨rfl, K1030, (by decide : 5 + 0 ≤ _), (by decide : 22 + 0 ≤ _)⟩)
   dsimp only [Pt.U, Pt.locs, Pt.cells, Pt.slots] at X1033 l1033 y1033 z1033 st1033 hQ1033
   subst l1033 y1033 z1033
   obtain ⟨rfl, NQ1033, K1033⟩ := hQ1033
   have N1034 := Fr.app N1031 NQ1033
   refine Rch.st (fun _ k => st1033.trans k) ?_
   show Rch p e below T1033 (mkF m 217 #[.val (.int ln), .val (.int ya), .val (.int yb), .val (.int yc), .val (.int yd), .val (.int ye), .val (.int 3), .val (.int xa), .val (.int xb), .val (.int xc), .val (.int xd), .val (.int xe), .val (.ref ra_999), .val (.ref ra_1010), .val (.int 2), .val (.int 2)] [(.int (nar .char ((own_by xb) &&& (255 : Int32))))]) _
   have r1035 : (nar .char ((own_by xb) &&& (255 : Int32))) = xb := ch_xb.by8
   rw [r1035]
   show Rch p e below T1033 (mkF m 217 #[.val (.int ln), .val (.int ya), .val (.int yb), .val (.int yc), .val (.int yd), .val (.int ye), .val (.int 3), .val (.int xa), .val (.int xb), .val (.int xc), .val (.int xd), .val (.int xe), .val (.ref ra_999), .val (.ref ra_1010), .val (.int 2), .val (.int 2)] [(.int xb)]) _
   refine w_iload (pc' := 219) X1033 hx hby at_217 rfl rfl ?_
   refine w_icmpNo (pc' := 222) X1033 hx hby at_219 (XT.ii_ne_f (rfl)) rfl ?_
   refine w_iload (pc' := 224) X1033 hx hby at_222 rfl rfl ?_
   refine w_iconst (pc' := 225) (v := 2) X1033 hx hby at_224 rfl rfl ?_
   refine w_icmpYes (pc' := 239) X1033 hx hby at_225 (XT.ii_le_t (by decide)) (by decide) ?_
   refine w_iload (pc' := 241) X1033 hx hby at_239 rfl rfl ?_
   refine w_iconst (pc' := 242) (v := 3) X1033 hx hby at_241 rfl rfl ?_
   refine w_icmpYes (pc' := 256) X1033 hx hby at_242 (XT.ii_le_t (by decide)) (by decide) ?_
   refine w_iconst (pc' := 257) (v := 1) X1033 hx hby at_256 rfl rfl ?_
   refine w_goto (pc' := 261) X1033 hx hby at_257 (by decide) ?_
   exact Rch.retVW X1033 hx hS0 (by rw [K1033]; exact hk1025) Bd.returns rfl (Or.inl ⟨rfl, by simp, _, rfl⟩) (hb hby at_261) (by rw [K1033]; exact ⟨rfl, (own_Fr Z0 N1034), Kp1023, own_chv (s := s) (vm0 := s.vm) hZ hEL X1033.warmed CH1026⟩) (by decide) (by decide)
  ·skip
   by_cases hc1036 : xb = 47
   ·skip
    obtain ⟨_, _, ⟨T1037, L1037, k1037, n1037⟩, -, X1037, ⟨Lc1037, hQ1037, l1037, y1037, z1037⟩, st1037⟩ := Jvm.LawKit.callS X999 hx (y := (⟨"com/example/fascicle/fascicle/Entries", "directoryOf", "(Ljava/lang/String;)Ljava/lang/String;"⟩ : MethodName)) hown (mvT hZ (wi hw 16 rfl)) (mvT hZ (wi hw 17 rfl)) (mvT hZ (wi hw 18 rfl)) (mvT hZ (wi hw 19 rfl)) (by decide) (backOf (W := 0) (rm_di_pos l Z a0 hw [] G1 G3 ra_999 t_999 kt_999 3 ([own_by xa, own_by xb, own_by xc] : List Int32) 1 T999.heap h0.size Z1005 (O2) (P5) (O4) (rG3) fq999_0 fq999_1 fq999_2 f1008 (by decide) (by rw [show (3 : Int32).toNatClampNeg = 3 from by decide]; show (if own_by xc = 47 then Int32.ofNat 2 else (if own_by xb = 47 then Int32.ofNat 1 else (if own_by xa = 47 then Int32.ofNat 0 else (-1 : Int32)))) = _; rw [if_neg (mt (own_by47 ch_xc).1 hc1009), if_pos ((own_by47 ch_xb).2 hc1036)]; rfl) (by decide) (by decide) (by decide) (by decide) (by decide) (by decide) (by decide) Old1003) hZ (wi hw 19 rfl) (wi hw 18 rfl) (by decide) (by decide)) (g := (mkF m 60 #[.val (.int ln), .val (.int ya), .val (.int yb), .val (.int yc), .val (.int yd), .val (.int ye), .val (.int 3), .val (.int xa), .val (.int xb), .val (.int xc), .val (.int xd), .val (.int xe), .val (.ref ra_999), .unset, .unset, .unset] [(.ref ra_999)])) rfl (by rw [hml]; rfl) (argsL := [(.ref ra_999)]) (rest := []) (lenOf pd__Ljava_lang_String__Ljava_lang_String_ rfl) rfl (by show 2 * 0 + _ ≤ _; exact Nat.le_of_eq rfl) (hb hby at_60) (fun _ _ => ⟨rfl, (rfl : T999.heap = T999.heap), (by decide : 3 + 2 ≤ _), (by decide : 10 + 12 ≤ _)⟩)
    dsimp only [Pt.U, Pt.locs, Pt.cells, Pt.slots] at X1037 l1037 y1037 z1037 st1037 hQ1037
    subst l1037 y1037 z1037
    obtain ⟨ra_1037, t_1037, kt_1037, rfl, NQ1037, K1037, pq1037_0, pq1037_1, fq1037_0, fq1037_1, fq1037_2, fq1037_3⟩ := hQ1037
    have N1038 := Fr.app N1000 NQ1037
    have Old1049 := Old1003.keep K1037 all0
    have Kp1050 : Keep h0 T1037.heap [] := Kp1004.trans K1037 all0
    have Z1051 := Nat.le_trans Z1005 K1037.1
    have hk1052 := Nat.le_trans hk1006 K1037.1
    have CH1053 := CHv.keep K1037 (fun x hx => by cases hx) CH1007
    refine Rch.st (fun _ k => st1037 _ k) ?_
    show Rch p e below T1037 (mkF m 63 #[.val (.int ln), .val (.int ya), .val (.int yb), .val (.int yc), .val (.int yd), .val (.int ye), .val (.int 3), .val (.int xa), .val (.int xb), .val (.int xc), .val (.int xd), .val (.int xe), .val (.ref ra_999), .unset, .unset, .unset] [(.ref ra_1037)]) _
    have f1054 : Arv Z T1037.heap t_1037 kt_1037 .byte (1 : Int32) [(.int (own_by xa))] (.int (0 : Int32)) := by have z := fq1037_3; rw [show own_take (([own_by xa, own_by xb, own_by xc] : List Int32).map Value.int) (.int (0 : Int32)) (1 : Int32).toNatClampNeg = [(.int (own_by xa))] from by rw [show (1 : Int32).toNatClampNeg = 1 from by decide]; rfl] at z; exact z
    refine w_astore (pc' := 65) (l' := #[.val (.int ln), .val (.int ya), .val (.int yb), .val (.int yc), .val (.int yd), .val (.int ye), .val (.int 3), .val (.int xa), .val (.int xb), .val (.int xc), .val (.int xd), .val (.int xe), .val (.ref ra_999), .val (.ref ra_1037), .unset, .unset]) X1037 hx hby at_63 rfl rfl rfl ?_
    refine w_iconst (pc' := 66) (v := (-1)) X1037 hx hby at_65 rfl rfl ?_
    refine w_istore (pc' := 68) (l' := #[.val (.int ln), .val (.int ya), .val (.int yb), .val (.int yc), .val (.int yd), .val (.int ye), .val (.int 3), .val (.int xa), .val (.int xb), .val (.int xc), .val (.int xd), .val (.int xe), .val (.ref ra_999), .val (.ref ra_1037), .val (.int (-1 : Int32)), .unset]) X1037 hx hby at_66 rfl rfl ?_
    refine w_iload (pc' := 70) X1037 hx hby at_68 rfl rfl ?_
    refine w_iconst (pc' := 71) (v := 4) X1037 hx hby at_70 rfl rfl ?_
    refine w_icmpYes (pc' := 87) X1037 hx hby at_71 (XT.ii_le_t (by decide)) (by decide) ?_
    refine w_iload (pc' := 89) X1037 hx hby at_87 rfl rfl ?_
    refine w_iconst (pc' := 90) (v := 3) X1037 hx hby at_89 rfl rfl ?_
    refine w_icmpYes (pc' := 106) X1037 hx hby at_90 (XT.ii_le_t (by decide)) (by decide) ?_
    refine w_iload (pc' := 108) X1037 hx hby at_106 rfl rfl ?_
    refine w_iconst (pc' := 109) (v := 2) X1037 hx hby at_108 rfl rfl ?_
    refine w_icmpNo (pc' := 112) X1037 hx hby at_109 (XT.ii_le_f (by decide)) rfl ?_
    refine w_iload (pc' := 114) X1037 hx hby at_112 rfl rfl ?_
    refine w_bipush (pc' := 116) (v := 47) X1037 hx hby at_114 rfl rfl ?_
    refine w_icmpYes (pc' := 125) X1037 hx hby at_116 (XT.ii_ne_t (hc1009)) (by decide) ?_
    refine w_iload (pc' := 127) X1037 hx hby at_125 rfl rfl ?_
    refine w_iconst (pc' := 128) (v := 1) X1037 hx hby at_127 rfl rfl ?_
    refine w_icmpNo (pc' := 131) X1037 hx hby at_128 (XT.ii_le_f (by decide)) rfl ?_
    refine w_iload (pc' := 133) X1037 hx hby at_131 rfl rfl ?_
    refine w_bipush (pc' := 135) (v := 47) X1037 hx hby at_133 rfl rfl ?_
    refine w_icmpNo (pc' := 138) X1037 hx hby at_135 (XT.ii_ne_f (hc1036)) rfl ?_
    refine w_iconst (pc' := 139) (v := 1) X1037 hx hby at_138 rfl rfl ?_
    refine w_istore (pc' := 141) (l' := #[.val (.int ln), .val (.int ya), .val (.int yb), .val (.int yc), .val (.int yd), .val (.int ye), .val (.int 3), .val (.int xa), .val (.int xb), .val (.int xc), .val (.int xd), .val (.int xe), .val (.ref ra_999), .val (.ref ra_1037), .val (.int 1), .unset]) X1037 hx hby at_139 rfl rfl ?_
    refine w_goto (pc' := 159) X1037 hx hby at_141 (by decide) ?_
    refine w_iload (pc' := 161) X1037 hx hby at_159 rfl rfl ?_
    refine w_ifYes (pc' := 168) X1037 hx hby at_161 (XT.i0_ge_t (by decide)) (by decide) ?_
    refine w_iload (pc' := 170) X1037 hx hby at_168 rfl rfl ?_
    refine w_istore (pc' := 172) (l' := #[.val (.int ln), .val (.int ya), .val (.int yb), .val (.int yc), .val (.int yd), .val (.int ye), .val (.int 3), .val (.int xa), .val (.int xb), .val (.int xc), .val (.int xd), .val (.int xe), .val (.ref ra_999), .val (.ref ra_1037), .val (.int 1), .val (.int 1)]) X1037 hx hby at_170 rfl rfl ?_
    refine w_aload (pc' := 174) X1037 hx hby at_172 rfl rfl rfl ?_
    refine w_nullNo (pc' := 177) X1037 hx hby at_174 rfl (fun q => nomatch q) rfl ?_
    refine w_aload (pc' := 179) X1037 hx hby at_177 rfl rfl rfl ?_
    obtain ⟨cq1055, kq1055, q1055a, q1055b, q1055c⟩ := isOf hZ (rfl : T1037.heap = T1037.heap) fq1037_0
    obtain ⟨_, _, ⟨T1055, L1055, k1055, n1055⟩, -, X1055, ⟨Lc1055, hQ1055, l1055, y1055, z1055⟩, st1055⟩ := X1037.virtualBack hx (y := (⟨"java/lang/String", "length", "()I"⟩ : MethodName)) (z := (⟨"java/lang/String", "length", "()I"⟩ : MethodName)) hown (mvT hZ (wi hw 60 rfl)) (mvT hZ (wi hw 26 rfl)) (notFace_of_selects (args := #[]) (mvT hZ (wi hw 28 rfl))) (mvT hZ (wi hw 28 rfl)) (mvT hZ (wi hw 27 rfl)) (by decide) (backOf (W := 0) (rm_length l Z a0 hw [] G1 ra_1037 0 t_1037 kt_1037 1 ([(.int (own_by xa))]) (.int 0) T1037.heap h0.size Z1051 (O2) (P5) fq1037_1 (Or.inl rfl) fq1037_2 f1054 fq1037_0 Old1049) hZ (wi hw 29 rfl) (wi hw 9 rfl) (by decide) (by decide)) q1055a q1055c (g := (mkF m 179 #[.val (.int ln), .val (.int ya), .val (.int yb), .val (.int yc), .val (.int yd), .val (.int ye), .val (.int 3), .val (.int xa), .val (.int xb), .val (.int xc), .val (.int xd), .val (.int xe), .val (.ref ra_999), .val (.ref ra_1037), .val (.int 1), .val (.int 1)] [(.ref ra_1037)])) rfl (by rw [hml]; rfl) (Steps.refl _) (argsL := []) (rest := []) (lenOf pd___I rfl) rfl (by show 2 * 0 + _ ≤ _; exact Nat.le_of_eq rfl) (hb hby at_179) (fun _ _ => ⟨rfl, (rfl : T1037.heap = T1037.heap), (by decide : 5 + 0 ≤ _), (by decide : 22 + 0 ≤ _)⟩)
    dsimp only [Pt.U, Pt.locs, Pt.cells, Pt.slots] at X1055 l1055 y1055 z1055 st1055 hQ1055
    subst l1055 y1055 z1055
    obtain ⟨rfl, NQ1055, K1055⟩ := hQ1055
    have N1056 := Fr.app N1038 NQ1055
    refine Rch.st (fun _ k => st1055.trans k) ?_
    show Rch p e below T1055 (mkF m 182 #[.val (.int ln), .val (.int ya), .val (.int yb), .val (.int yc), .val (.int yd), .val (.int ye), .val (.int 3), .val (.int xa), .val (.int xb), .val (.int xc), .val (.int xd), .val (.int xe), .val (.ref ra_999), .val (.ref ra_1037), .val (.int 1), .val (.int 1)] [(.int ((1 : Int32) >>> ((0 : Int32) &&& 31)))]) _
    refine w_iload (pc' := 184) X1055 hx hby at_182 rfl rfl ?_
    refine w_icmpYes (pc' := 189) X1055 hx hby at_184 (XT.ii_eq_t (by decide)) (by decide) ?_
    refine w_iload (pc' := 191) X1055 hx hby at_189 rfl rfl ?_
    refine w_ifNo (pc' := 194) X1055 hx hby at_191 (XT.i0_le_f (by decide)) rfl ?_
    refine w_aload (pc' := 196) X1055 hx hby at_194 rfl rfl rfl ?_
    refine w_iconst (pc' := 197) (v := 0) X1055 hx hby at_196 rfl rfl ?_
    obtain ⟨cq1057, kq1057, q1057a, q1057b, q1057c⟩ := isOf hZ K1055 fq1037_0
    obtain ⟨_, _, ⟨T1057, L1057, k1057, n1057⟩, -, X1057, ⟨Lc1057, hQ1057, l1057, y1057, z1057⟩, st1057⟩ := X1055.virtualBack hx (y := (⟨"java/lang/String", "charAt", "(I)C"⟩ : MethodName)) (z := (⟨"java/lang/String", "charAt", "(I)C"⟩ : MethodName)) hown (mvT hZ (wi hw 118 rfl)) (mvT hZ (wi hw 119 rfl)) (notFace_of_selects (args := #[]) (mvT hZ (wi hw 121 rfl))) (mvT hZ (wi hw 121 rfl)) (mvT hZ (wi hw 120 rfl)) (by decide) (backOf (W := 0) (rm_chA l Z a0 hw [] G1 ra_1037 t_1037 kt_1037 1 ([(.int (own_by xa))]) (.int 0) 0 (own_by xa) G3 T1037.heap h0.size Z1051 (O2) (P5) (O4) (rG3) fq1037_0 fq1037_1 fq1037_2 f1054 (by decide) (by decide) (by rfl) Old1049) hZ (wi hw 122 rfl) (wi hw 9 rfl) (by decide) (by decide)) q1057a q1057c (g := (mkF m 197 #[.val (.int ln), .val (.int ya), .val (.int yb), .val (.int yc), .val (.int yd), .val (.int ye), .val (.int 3), .val (.int xa), .val (.int xb), .val (.int xc), .val (.int xd), .val (.int xe), .val (.ref ra_999), .val (.ref ra_1037), .val (.int 1), .val (.int 1)] [(.int 0), (.ref ra_1037)])) rfl (by rw [hml]; rfl) (Steps.refl _) (argsL := [(.int 0)]) (rest := []) (lenOf pd__I_C rfl) rfl (by show 2 * 0 + _ ≤ _; exact Nat.le_of_eq rfl) (hb hby at_197) (fun _ _ => ⟨rfl, K1055, (by decide : 5 + 0 ≤ _), (by decide : 22 + 0 ≤ _)⟩)
    dsimp only [Pt.U, Pt.locs, Pt.cells, Pt.slots] at X1057 l1057 y1057 z1057 st1057 hQ1057
    subst l1057 y1057 z1057
    obtain ⟨rfl, NQ1057, K1057⟩ := hQ1057
    have N1058 := Fr.app N1056 NQ1057
    refine Rch.st (fun _ k => st1057.trans k) ?_
    show Rch p e below T1057 (mkF m 200 #[.val (.int ln), .val (.int ya), .val (.int yb), .val (.int yc), .val (.int yd), .val (.int ye), .val (.int 3), .val (.int xa), .val (.int xb), .val (.int xc), .val (.int xd), .val (.int xe), .val (.ref ra_999), .val (.ref ra_1037), .val (.int 1), .val (.int 1)] [(.int (nar .char ((own_by xa) &&& (255 : Int32))))]) _
    have r1059 : (nar .char ((own_by xa) &&& (255 : Int32))) = xa := ch_xa.by8
    rw [r1059]
    show Rch p e below T1057 (mkF m 200 #[.val (.int ln), .val (.int ya), .val (.int yb), .val (.int yc), .val (.int yd), .val (.int ye), .val (.int 3), .val (.int xa), .val (.int xb), .val (.int xc), .val (.int xd), .val (.int xe), .val (.ref ra_999), .val (.ref ra_1037), .val (.int 1), .val (.int 1)] [(.int xa)]) _
    refine w_iload (pc' := 202) X1057 hx hby at_200 rfl rfl ?_
    refine w_icmpNo (pc' := 205) X1057 hx hby at_202 (XT.ii_ne_f (rfl)) rfl ?_
    refine w_iload (pc' := 207) X1057 hx hby at_205 rfl rfl ?_
    refine w_iconst (pc' := 208) (v := 1) X1057 hx hby at_207 rfl rfl ?_
    refine w_icmpYes (pc' := 222) X1057 hx hby at_208 (XT.ii_le_t (by decide)) (by decide) ?_
    refine w_iload (pc' := 224) X1057 hx hby at_222 rfl rfl ?_
    refine w_iconst (pc' := 225) (v := 2) X1057 hx hby at_224 rfl rfl ?_
    refine w_icmpYes (pc' := 239) X1057 hx hby at_225 (XT.ii_le_t (by decide)) (by decide) ?_
    refine w_iload (pc' := 241) X1057 hx hby at_239 rfl rfl ?_
    refine w_iconst (pc' := 242) (v := 3) X1057 hx hby at_241 rfl rfl ?_
    refine w_icmpYes (pc' := 256) X1057 hx hby at_242 (XT.ii_le_t (by decide)) (by decide) ?_
    refine w_iconst (pc' := 257) (v := 1) X1057 hx hby at_256 rfl rfl ?_
    refine w_goto (pc' := 261) X1057 hx hby at_257 (by decide) ?_
    exact Rch.retVW X1057 hx hS0 (by rw [K1057]; exact hk1052) Bd.returns rfl (Or.inl ⟨rfl, by simp, _, rfl⟩) (hb hby at_261) (by rw [K1057]; exact ⟨rfl, (own_Fr Z0 N1058), Kp1050, own_chv (s := s) (vm0 := s.vm) hZ hEL X1057.warmed CH1053⟩) (by decide) (by decide)
   ·skip
    by_cases hc1060 : xa = 47
    ·skip
     obtain ⟨_, _, ⟨T1061, L1061, k1061, n1061⟩, -, X1061, hSx1061, hgx1061, ⟨Lc1061, hQ1061, l1061, y1061, z1061⟩, st1061⟩ := callSS X999 hx (y := (⟨"com/example/fascicle/fascicle/Entries", "directoryOf", "(Ljava/lang/String;)Ljava/lang/String;"⟩ : MethodName)) hown (mvT hZ (wi hw 16 rfl)) (mvT hZ (wi hw 17 rfl)) (mvT hZ (wi hw 18 rfl)) (mvT hZ (wi hw 19 rfl)) (by decide) (backOfV (PV := fun vm => CHv Z consts_1 vm T999.heap) (W := 0) (rm_di_zero l Z a0 hw [] G1 G3 ra_999 t_999 kt_999 3 ([own_by xa, own_by xb, own_by xc] : List Int32) T999.heap h0.size Z1005 (O2) (P5) (O4) (rG3) fq999_0 fq999_1 fq999_2 f1008 (by decide) (by rw [show (3 : Int32).toNatClampNeg = 3 from by decide]; show (if own_by xc = 47 then Int32.ofNat 2 else (if own_by xb = 47 then Int32.ofNat 1 else (if own_by xa = 47 then Int32.ofNat 0 else (-1 : Int32)))) = _; rw [if_neg (mt (own_by47 ch_xc).1 hc1009), if_neg (mt (own_by47 ch_xb).1 hc1036), if_pos ((own_by47 ch_xa).2 hc1060)]; rfl) (by decide) (by decide) Old1003) hZ (fun vm hW => own_chv (s := s) (vm0 := s.vm) hZ hEL hW CH1007) (wi hw 19 rfl) (wi hw 18 rfl) (by decide) (by decide)) (g := (mkF m 60 #[.val (.int ln), .val (.int ya), .val (.int yb), .val (.int yc), .val (.int yd), .val (.int ye), .val (.int 3), .val (.int xa), .val (.int xb), .val (.int xc), .val (.int xd), .val (.int xe), .val (.ref ra_999), .unset, .unset, .unset] [(.ref ra_999)])) rfl (by rw [hml]; rfl) (argsL := [(.ref ra_999)]) (rest := []) (lenOf pd__Ljava_lang_String__Ljava_lang_String_ rfl) rfl (by show 2 * 0 + _ ≤ _; exact Nat.le_of_eq rfl) (hb hby at_60) (fun _ _ => ⟨rfl, (rfl : T999.heap = T999.heap), (by decide : 3 + 2 ≤ _), (by decide : 10 + 4 ≤ _)⟩)
     dsimp only [Pt.U, Pt.locs, Pt.cells, Pt.slots] at X1061 l1061 y1061 z1061 st1061 hQ1061 hSx1061 hgx1061
     subst l1061 y1061 z1061
     have hS1061 := foldS hS0 (by rw [(rfl : T999.heap = T999.heap)]; exact hk1006) hSx1061 hgx1061
     have hk1061 : T1061.heap.size ≤ T1061.heap.size := Nat.le_refl _
     have hZ1061 : Z.Warmed39 (s.setVm T1061.vm).vm := State.Warmed39.trans (t := s.setVm s.vm) hZ hSx1061.1
     have hown1061 : (s.setVm T1061.vm).vm.findClass "com/example/fascicle/fascicle/EntriesDirectoryOfPinLaw" = some m.cls := by rw [show (s.setVm T1061.vm).vm = T1061.vm from rfl, hSx1061.1.alike.findClass]; exact hown
     have X1061w : Stand p l e room_1 (s.setVm T1061.vm) m _ below meth c T1061 _ _ _ := X1061
     obtain ⟨ra_1061, t_1061, kt_1061, rfl, NQ1061, K1061, fq1061_0, fq1061_1, fq1061_2, fq1061_3, IQ1061⟩ := hQ1061
     have N1062 := Fr.app N1000 NQ1061
     have Old1067 := Old1003.keep K1061 all0
     have Kp1068 : Keep h0 T1061.heap [] := Kp1004.trans K1061 all0
     have Z1069 := Nat.le_trans Z1005 K1061.1
     refine Rch.st (fun _ k => st1061.trans k) ?_
     show Rch p e below T1061 (mkF m 63 #[.val (.int ln), .val (.int ya), .val (.int yb), .val (.int yc), .val (.int yd), .val (.int ye), .val (.int 3), .val (.int xa), .val (.int xb), .val (.int xc), .val (.int xd), .val (.int xe), .val (.ref ra_999), .unset, .unset, .unset] [(.ref ra_1061)]) _
     refine w_astore (pc' := 65) (l' := #[.val (.int ln), .val (.int ya), .val (.int yb), .val (.int yc), .val (.int yd), .val (.int ye), .val (.int 3), .val (.int xa), .val (.int xb), .val (.int xc), .val (.int xd), .val (.int xe), .val (.ref ra_999), .val (.ref ra_1061), .unset, .unset]) X1061w hx hby at_63 rfl rfl rfl ?_
     refine w_iconst (pc' := 66) (v := (-1)) X1061w hx hby at_65 rfl rfl ?_
     refine w_istore (pc' := 68) (l' := #[.val (.int ln), .val (.int ya), .val (.int yb), .val (.int yc), .val (.int yd), .val (.int ye), .val (.int 3), .val (.int xa), .val (.int xb), .val (.int xc), .val (.int xd), .val (.int xe), .val (.ref ra_999), .val (.ref ra_1061), .val (.int (-1 : Int32)), .unset]) X1061w hx hby at_66 rfl rfl ?_
     refine w_iload (pc' := 70) X1061w hx hby at_68 rfl rfl ?_
     refine w_iconst (pc' := 71) (v := 4) X1061w hx hby at_70 rfl rfl ?_
     refine w_icmpYes (pc' := 87) X1061w hx hby at_71 (XT.ii_le_t (by decide)) (by decide) ?_
     refine w_iload (pc' := 89) X1061w hx hby at_87 rfl rfl ?_
     refine w_iconst (pc' := 90) (v := 3) X1061w hx hby at_89 rfl rfl ?_
     refine w_icmpYes (pc' := 106) X1061w hx hby at_90 (XT.ii_le_t (by decide)) (by decide) ?_
     refine w_iload (pc' := 108) X1061w hx hby at_106 rfl rfl ?_
     refine w_iconst (pc' := 109) (v := 2) X1061w hx hby at_108 rfl rfl ?_
     refine w_icmpNo (pc' := 112) X1061w hx hby at_109 (XT.ii_le_f (by decide)) rfl ?_
     refine w_iload (pc' := 114) X1061w hx hby at_112 rfl rfl ?_
     refine w_bipush (pc' := 116) (v := 47) X1061w hx hby at_114 rfl rfl ?_
     refine w_icmpYes (pc' := 125) X1061w hx hby at_116 (XT.ii_ne_t (hc1009)) (by decide) ?_
     refine w_iload (pc' := 127) X1061w hx hby at_125 rfl rfl ?_
     refine w_iconst (pc' := 128) (v := 1) X1061w hx hby at_127 rfl rfl ?_
     refine w_icmpNo (pc' := 131) X1061w hx hby at_128 (XT.ii_le_f (by decide)) rfl ?_
     refine w_iload (pc' := 133) X1061w hx hby at_131 rfl rfl ?_
     refine w_bipush (pc' := 135) (v := 47) X1061w hx hby at_133 rfl rfl ?_
     refine w_icmpYes (pc' := 144) X1061w hx hby at_135 (XT.ii_ne_t (hc1036)) (by decide) ?_
     refine w_iload (pc' := 146) X1061w hx hby at_144 rfl rfl ?_
     refine w_ifNo (pc' := 149) X1061w hx hby at_146 (XT.i0_le_f (by decide)) rfl ?_
     refine w_iload (pc' := 151) X1061w hx hby at_149 rfl rfl ?_
     refine w_bipush (pc' := 153) (v := 47) X1061w hx hby at_151 rfl rfl ?_
     refine w_icmpNo (pc' := 156) X1061w hx hby at_153 (XT.ii_ne_f (hc1060)) rfl ?_
     refine w_iconst (pc' := 157) (v := 0) X1061w hx hby at_156 rfl rfl ?_
     refine w_istore (pc' := 159) (l' := #[.val (.int ln), .val (.int ya), .val (.int yb), .val (.int yc), .val (.int yd), .val (.int ye), .val (.int 3), .val (.int xa), .val (.int xb), .val (.int xc), .val (.int xd), .val (.int xe), .val (.ref ra_999), .val (.ref ra_1061), .val (.int 0), .unset]) X1061w hx hby at_157 rfl rfl ?_
     refine w_iload (pc' := 161) X1061w hx hby at_159 rfl rfl ?_
     refine w_ifYes (pc' := 168) X1061w hx hby at_161 (XT.i0_ge_t (by decide)) (by decide) ?_
     refine w_iload (pc' := 170) X1061w hx hby at_168 rfl rfl ?_
     refine w_istore (pc' := 172) (l' := #[.val (.int ln), .val (.int ya), .val (.int yb), .val (.int yc), .val (.int yd), .val (.int ye), .val (.int 3), .val (.int xa), .val (.int xb), .val (.int xc), .val (.int xd), .val (.int xe), .val (.ref ra_999), .val (.ref ra_1061), .val (.int 0), .val (.int 0)]) X1061w hx hby at_170 rfl rfl ?_
     refine w_aload (pc' := 174) X1061w hx hby at_172 rfl rfl rfl ?_
     refine w_nullNo (pc' := 177) X1061w hx hby at_174 rfl (fun q => nomatch q) rfl ?_
     refine w_aload (pc' := 179) X1061w hx hby at_177 rfl rfl rfl ?_
     obtain ⟨cq1070, kq1070, q1070a, q1070b, q1070c⟩ := isOf hZ1061 (rfl : T1061.heap = T1061.heap) fq1061_0
     obtain ⟨_, _, ⟨T1070, L1070, k1070, n1070⟩, -, X1070, ⟨Lc1070, hQ1070, l1070, y1070, z1070⟩, st1070⟩ := X1061w.virtualBack hx (y := (⟨"java/lang/String", "length", "()I"⟩ : MethodName)) (z := (⟨"java/lang/String", "length", "()I"⟩ : MethodName)) hown1061 (mvT hZ1061 (wi hw 60 rfl)) (mvT hZ1061 (wi hw 26 rfl)) (notFace_of_selects (args := #[]) (mvT hZ1061 (wi hw 28 rfl))) (mvT hZ1061 (wi hw 28 rfl)) (mvT hZ1061 (wi hw 27 rfl)) (by decide) (backOf (W := 0) (rm_length l Z a0 hw [] G1 ra_1061 0 t_1061 kt_1061 0 ([]) (.int 0) T1061.heap h0.size Z1069 (O2) (P5) fq1061_1 (Or.inl rfl) fq1061_2 fq1061_3 fq1061_0 Old1067) hZ1061 (wi hw 29 rfl) (wi hw 9 rfl) (by decide) (by decide)) q1070a q1070c (g := (mkF m 179 #[.val (.int ln), .val (.int ya), .val (.int yb), .val (.int yc), .val (.int yd), .val (.int ye), .val (.int 3), .val (.int xa), .val (.int xb), .val (.int xc), .val (.int xd), .val (.int xe), .val (.ref ra_999), .val (.ref ra_1061), .val (.int 0), .val (.int 0)] [(.ref ra_1061)])) rfl (by rw [hml]; rfl) (Steps.refl _) (argsL := []) (rest := []) (lenOf pd___I rfl) rfl (by show 2 * 0 + _ ≤ _; exact Nat.le_of_eq rfl) (hb hby at_179) (fun _ _ => ⟨rfl, (rfl : T1061.heap = T1061.heap), (by decide : 5 + 0 ≤ _), (by decide : 14 + 0 ≤ _)⟩)
     dsimp only [Pt.U, Pt.locs, Pt.cells, Pt.slots] at X1070 l1070 y1070 z1070 st1070 hQ1070
     subst l1070 y1070 z1070
     obtain ⟨rfl, NQ1070, K1070⟩ := hQ1070
     have N1071 := Fr.app N1062 NQ1070
     refine Rch.st (fun _ k => st1070.trans k) ?_
     show Rch p e below T1070 (mkF m 182 #[.val (.int ln), .val (.int ya), .val (.int yb), .val (.int yc), .val (.int yd), .val (.int ye), .val (.int 3), .val (.int xa), .val (.int xb), .val (.int xc), .val (.int xd), .val (.int xe), .val (.ref ra_999), .val (.ref ra_1061), .val (.int 0), .val (.int 0)] [(.int ((0 : Int32) >>> ((0 : Int32) &&& 31)))]) _
     refine w_iload (pc' := 184) X1070 hx hby at_182 rfl rfl ?_
     refine w_icmpYes (pc' := 189) X1070 hx hby at_184 (XT.ii_eq_t (by decide)) (by decide) ?_
     refine w_iload (pc' := 191) X1070 hx hby at_189 rfl rfl ?_
     refine w_ifYes (pc' := 205) X1070 hx hby at_191 (XT.i0_le_t (by decide)) (by decide) ?_
     refine w_iload (pc' := 207) X1070 hx hby at_205 rfl rfl ?_
     refine w_iconst (pc' := 208) (v := 1) X1070 hx hby at_207 rfl rfl ?_
     refine w_icmpYes (pc' := 222) X1070 hx hby at_208 (XT.ii_le_t (by decide)) (by decide) ?_
     refine w_iload (pc' := 224) X1070 hx hby at_222 rfl rfl ?_
     refine w_iconst (pc' := 225) (v := 2) X1070 hx hby at_224 rfl rfl ?_
     refine w_icmpYes (pc' := 239) X1070 hx hby at_225 (XT.ii_le_t (by decide)) (by decide) ?_
     refine w_iload (pc' := 241) X1070 hx hby at_239 rfl rfl ?_
     refine w_iconst (pc' := 242) (v := 3) X1070 hx hby at_241 rfl rfl ?_
     refine w_icmpYes (pc' := 256) X1070 hx hby at_242 (XT.ii_le_t (by decide)) (by decide) ?_
     refine w_iconst (pc' := 257) (v := 1) X1070 hx hby at_256 rfl rfl ?_
     refine w_goto (pc' := 261) X1070 hx hby at_257 (by decide) ?_
     exact Rch.retVW X1070 hx hS1061 (by rw [K1070]; exact hk1061) Bd.returns rfl (Or.inl ⟨rfl, by simp, _, rfl⟩) (hb hby at_261) (by rw [K1070]; exact ⟨rfl, (own_Fr Z0 N1071), Kp1068, own_chv (s := s) (vm0 := T1061.vm) hZ1061 hEL X1070.warmed IQ1061⟩) (by decide) (by decide)
    ·skip
     obtain ⟨_, _, ⟨T1072, L1072, k1072, n1072⟩, -, X1072, hSx1072, hgx1072, ⟨Lc1072, hQ1072, l1072, y1072, z1072⟩, st1072⟩ := callSS X999 hx (y := (⟨"com/example/fascicle/fascicle/Entries", "directoryOf", "(Ljava/lang/String;)Ljava/lang/String;"⟩ : MethodName)) hown (mvT hZ (wi hw 16 rfl)) (mvT hZ (wi hw 17 rfl)) (mvT hZ (wi hw 18 rfl)) (mvT hZ (wi hw 19 rfl)) (by decide) (backOfV (PV := fun vm => CHv Z consts_1 vm T999.heap) (W := 0) (rm_di_neg l Z a0 hw [] G1 G3 ra_999 t_999 kt_999 3 ([own_by xa, own_by xb, own_by xc] : List Int32) T999.heap h0.size Z1005 (O2) (P5) (O4) (rG3) fq999_0 fq999_1 fq999_2 f1008 (by decide) (by rw [show (3 : Int32).toNatClampNeg = 3 from by decide]; show (if own_by xc = 47 then Int32.ofNat 2 else (if own_by xb = 47 then Int32.ofNat 1 else (if own_by xa = 47 then Int32.ofNat 0 else (-1 : Int32)))) = _; rw [if_neg (mt (own_by47 ch_xc).1 hc1009), if_neg (mt (own_by47 ch_xb).1 hc1036), if_neg (mt (own_by47 ch_xa).1 hc1060)]) Old1003) hZ (fun vm hW => own_chv (s := s) (vm0 := s.vm) hZ hEL hW CH1007) (wi hw 19 rfl) (wi hw 18 rfl) (by decide) (by decide)) (g := (mkF m 60 #[.val (.int ln), .val (.int ya), .val (.int yb), .val (.int yc), .val (.int yd), .val (.int ye), .val (.int 3), .val (.int xa), .val (.int xb), .val (.int xc), .val (.int xd), .val (.int xe), .val (.ref ra_999), .unset, .unset, .unset] [(.ref ra_999)])) rfl (by rw [hml]; rfl) (argsL := [(.ref ra_999)]) (rest := []) (lenOf pd__Ljava_lang_String__Ljava_lang_String_ rfl) rfl (by show 2 * 0 + _ ≤ _; exact Nat.le_of_eq rfl) (hb hby at_60) (fun _ _ => ⟨rfl, (rfl : T999.heap = T999.heap), (by decide : 3 + 2 ≤ _), (by decide : 10 + 4 ≤ _)⟩)
     dsimp only [Pt.U, Pt.locs, Pt.cells, Pt.slots] at X1072 l1072 y1072 z1072 st1072 hQ1072 hSx1072 hgx1072
     subst l1072 y1072 z1072
     have hS1072 := foldS hS0 (by rw [(rfl : T999.heap = T999.heap)]; exact hk1006) hSx1072 hgx1072
     have hk1072 : T1072.heap.size ≤ T1072.heap.size := Nat.le_refl _
     have hZ1072 : Z.Warmed39 (s.setVm T1072.vm).vm := State.Warmed39.trans (t := s.setVm s.vm) hZ hSx1072.1
     have hown1072 : (s.setVm T1072.vm).vm.findClass "com/example/fascicle/fascicle/EntriesDirectoryOfPinLaw" = some m.cls := by rw [show (s.setVm T1072.vm).vm = T1072.vm from rfl, hSx1072.1.alike.findClass]; exact hown
     have X1072w : Stand p l e room_1 (s.setVm T1072.vm) m _ below meth c T1072 _ _ _ := X1072
     obtain ⟨ra_1072, t_1072, kt_1072, rfl, NQ1072, K1072, fq1072_0, fq1072_1, fq1072_2, fq1072_3, IQ1072⟩ := hQ1072
     have N1073 := Fr.app N1000 NQ1072
     have Old1078 := Old1003.keep K1072 all0
     have Kp1079 : Keep h0 T1072.heap [] := Kp1004.trans K1072 all0
     have Z1080 := Nat.le_trans Z1005 K1072.1
     refine Rch.st (fun _ k => st1072.trans k) ?_
     show Rch p e below T1072 (mkF m 63 #[.val (.int ln), .val (.int ya), .val (.int yb), .val (.int yc), .val (.int yd), .val (.int ye), .val (.int 3), .val (.int xa), .val (.int xb), .val (.int xc), .val (.int xd), .val (.int xe), .val (.ref ra_999), .unset, .unset, .unset] [(.ref ra_1072)]) _
     refine w_astore (pc' := 65) (l' := #[.val (.int ln), .val (.int ya), .val (.int yb), .val (.int yc), .val (.int yd), .val (.int ye), .val (.int 3), .val (.int xa), .val (.int xb), .val (.int xc), .val (.int xd), .val (.int xe), .val (.ref ra_999), .val (.ref ra_1072), .unset, .unset]) X1072w hx hby at_63 rfl rfl rfl ?_
     refine w_iconst (pc' := 66) (v := (-1)) X1072w hx hby at_65 rfl rfl ?_
     refine w_istore (pc' := 68) (l' := #[.val (.int ln), .val (.int ya), .val (.int yb), .val (.int yc), .val (.int yd), .val (.int ye), .val (.int 3), .val (.int xa), .val (.int xb), .val (.int xc), .val (.int xd), .val (.int xe), .val (.ref ra_999), .val (.ref ra_1072), .val (.int (-1 : Int32)), .unset]) X1072w hx hby at_66 rfl rfl ?_
     refine w_iload (pc' := 70) X1072w hx hby at_68 rfl rfl ?_
     refine w_iconst (pc' := 71) (v := 4) X1072w hx hby at_70 rfl rfl ?_
     refine w_icmpYes (pc' := 87) X1072w hx hby at_71 (XT.ii_le_t (by decide)) (by decide) ?_
     refine w_iload (pc' := 89) X1072w hx hby at_87 rfl rfl ?_
     refine w_iconst (pc' := 90) (v := 3) X1072w hx hby at_89 rfl rfl ?_
     refine w_icmpYes (pc' := 106) X1072w hx hby at_90 (XT.ii_le_t (by decide)) (by decide) ?_
     refine w_iload (pc' := 108) X1072w hx hby at_106 rfl rfl ?_
     refine w_iconst (pc' := 109) (v := 2) X1072w hx hby at_108 rfl rfl ?_
     refine w_icmpNo (pc' := 112) X1072w hx hby at_109 (XT.ii_le_f (by decide)) rfl ?_
     refine w_iload (pc' := 114) X1072w hx hby at_112 rfl rfl ?_
     refine w_bipush (pc' := 116) (v := 47) X1072w hx hby at_114 rfl rfl ?_
     refine w_icmpYes (pc' := 125) X1072w hx hby at_116 (XT.ii_ne_t (hc1009)) (by decide) ?_
     refine w_iload (pc' := 127) X1072w hx hby at_125 rfl rfl ?_
     refine w_iconst (pc' := 128) (v := 1) X1072w hx hby at_127 rfl rfl ?_
     refine w_icmpNo (pc' := 131) X1072w hx hby at_128 (XT.ii_le_f (by decide)) rfl ?_
     refine w_iload (pc' := 133) X1072w hx hby at_131 rfl rfl ?_
     refine w_bipush (pc' := 135) (v := 47) X1072w hx hby at_133 rfl rfl ?_
     refine w_icmpYes (pc' := 144) X1072w hx hby at_135 (XT.ii_ne_t (hc1036)) (by decide) ?_
     refine w_iload (pc' := 146) X1072w hx hby at_144 rfl rfl ?_
     refine w_ifNo (pc' := 149) X1072w hx hby at_146 (XT.i0_le_f (by decide)) rfl ?_
     refine w_iload (pc' := 151) X1072w hx hby at_149 rfl rfl ?_
     refine w_bipush (pc' := 153) (v := 47) X1072w hx hby at_151 rfl rfl ?_
     refine w_icmpYes (pc' := 159) X1072w hx hby at_153 (XT.ii_ne_t (hc1060)) (by decide) ?_
     refine w_iload (pc' := 161) X1072w hx hby at_159 rfl rfl ?_
     refine w_ifNo (pc' := 164) X1072w hx hby at_161 (XT.i0_ge_f (by decide)) rfl ?_
     refine w_iconst (pc' := 165) (v := 0) X1072w hx hby at_164 rfl rfl ?_
     refine w_goto (pc' := 170) X1072w hx hby at_165 (by decide) ?_
     refine w_istore (pc' := 172) (l' := #[.val (.int ln), .val (.int ya), .val (.int yb), .val (.int yc), .val (.int yd), .val (.int ye), .val (.int 3), .val (.int xa), .val (.int xb), .val (.int xc), .val (.int xd), .val (.int xe), .val (.ref ra_999), .val (.ref ra_1072), .val (.int (-1 : Int32)), .val (.int 0)]) X1072w hx hby at_170 rfl rfl ?_
     refine w_aload (pc' := 174) X1072w hx hby at_172 rfl rfl rfl ?_
     refine w_nullNo (pc' := 177) X1072w hx hby at_174 rfl (fun q => nomatch q) rfl ?_
     refine w_aload (pc' := 179) X1072w hx hby at_177 rfl rfl rfl ?_
     obtain ⟨cq1081, kq1081, q1081a, q1081b, q1081c⟩ := isOf hZ1072 (rfl : T1072.heap = T1072.heap) fq1072_0
     obtain ⟨_, _, ⟨T1081, L1081, k1081, n1081⟩, -, X1081, ⟨Lc1081, hQ1081, l1081, y1081, z1081⟩, st1081⟩ := X1072w.virtualBack hx (y := (⟨"java/lang/String", "length", "()I"⟩ : MethodName)) (z := (⟨"java/lang/String", "length", "()I"⟩ : MethodName)) hown1072 (mvT hZ1072 (wi hw 60 rfl)) (mvT hZ1072 (wi hw 26 rfl)) (notFace_of_selects (args := #[]) (mvT hZ1072 (wi hw 28 rfl))) (mvT hZ1072 (wi hw 28 rfl)) (mvT hZ1072 (wi hw 27 rfl)) (by decide) (backOf (W := 0) (rm_length l Z a0 hw [] G1 ra_1072 0 t_1072 kt_1072 0 ([]) (.int 0) T1072.heap h0.size Z1080 (O2) (P5) fq1072_1 (Or.inl rfl) fq1072_2 fq1072_3 fq1072_0 Old1078) hZ1072 (wi hw 29 rfl) (wi hw 9 rfl) (by decide) (by decide)) q1081a q1081c (g := (mkF m 179 #[.val (.int ln), .val (.int ya), .val (.int yb), .val (.int yc), .val (.int yd), .val (.int ye), .val (.int 3), .val (.int xa), .val (.int xb), .val (.int xc), .val (.int xd), .val (.int xe), .val (.ref ra_999), .val (.ref ra_1072), .val (.int (-1 : Int32)), .val (.int 0)] [(.ref ra_1072)])) rfl (by rw [hml]; rfl) (Steps.refl _) (argsL := []) (rest := []) (lenOf pd___I rfl) rfl (by show 2 * 0 + _ ≤ _; exact Nat.le_of_eq rfl) (hb hby at_179) (fun _ _ => ⟨rfl, (rfl : T1072.heap = T1072.heap), (by decide : 5 + 0 ≤ _), (by decide : 14 + 0 ≤ _)⟩)
     dsimp only [Pt.U, Pt.locs, Pt.cells, Pt.slots] at X1081 l1081 y1081 z1081 st1081 hQ1081
     subst l1081 y1081 z1081
     obtain ⟨rfl, NQ1081, K1081⟩ := hQ1081
     have N1082 := Fr.app N1073 NQ1081
     refine Rch.st (fun _ k => st1081.trans k) ?_
     show Rch p e below T1081 (mkF m 182 #[.val (.int ln), .val (.int ya), .val (.int yb), .val (.int yc), .val (.int yd), .val (.int ye), .val (.int 3), .val (.int xa), .val (.int xb), .val (.int xc), .val (.int xd), .val (.int xe), .val (.ref ra_999), .val (.ref ra_1072), .val (.int (-1 : Int32)), .val (.int 0)] [(.int ((0 : Int32) >>> ((0 : Int32) &&& 31)))]) _
     refine w_iload (pc' := 184) X1081 hx hby at_182 rfl rfl ?_
     refine w_icmpYes (pc' := 189) X1081 hx hby at_184 (XT.ii_eq_t (by decide)) (by decide) ?_
     refine w_iload (pc' := 191) X1081 hx hby at_189 rfl rfl ?_
     refine w_ifYes (pc' := 205) X1081 hx hby at_191 (XT.i0_le_t (by decide)) (by decide) ?_
     refine w_iload (pc' := 207) X1081 hx hby at_205 rfl rfl ?_
     refine w_iconst (pc' := 208) (v := 1) X1081 hx hby at_207 rfl rfl ?_
     refine w_icmpYes (pc' := 222) X1081 hx hby at_208 (XT.ii_le_t (by decide)) (by decide) ?_
     refine w_iload (pc' := 224) X1081 hx hby at_222 rfl rfl ?_
     refine w_iconst (pc' := 225) (v := 2) X1081 hx hby at_224 rfl rfl ?_
     refine w_icmpYes (pc' := 239) X1081 hx hby at_225 (XT.ii_le_t (by decide)) (by decide) ?_
     refine w_iload (pc' := 241) X1081 hx hby at_239 rfl rfl ?_
     refine w_iconst (pc' := 242) (v := 3) X1081 hx hby at_241 rfl rfl ?_
     refine w_icmpYes (pc' := 256) X1081 hx hby at_242 (XT.ii_le_t (by decide)) (by decide) ?_
     refine w_iconst (pc' := 257) (v := 1) X1081 hx hby at_256 rfl rfl ?_
     refine w_goto (pc' := 261) X1081 hx hby at_257 (by decide) ?_
     exact Rch.retVW X1081 hx hS1072 (by rw [K1081]; exact hk1072) Bd.returns rfl (Or.inl ⟨rfl, by simp, _, rfl⟩) (hb hby at_261) (by rw [K1081]; exact ⟨rfl, (own_Fr Z0 N1082), Kp1079, own_chv (s := s) (vm0 := T1072.vm) hZ1072 hEL X1081.warmed IQ1072⟩) (by decide) (by decide)
 ·skip
  show Rch p e below T890 (mkF m 53 #[.val (.int ln), .val (.int ya), .val (.int yb), .val (.int yc), .val (.int yd), .val (.int ye), .val (.int 4), .val (.int xa), .val (.int xb), .val (.int xc), .val (.int xd), .val (.int xe), .unset, .unset, .unset, .unset] [(.int xe), (.int xd), (.int xc), (.int xb), (.int xa), (.int 4)]) _
  obtain ⟨_, _, ⟨T1083, L1083, k1083, n1083⟩, -, X1083, ⟨Lc1083, hQ1083, l1083, y1083, z1083⟩, st1083⟩ := Jvm.LawKit.callS X890 hx (y := (⟨"com/example/fascicle/fascicle/EntriesDirectoryOfPinLaw", "mk", "(ICCCCC)Ljava/lang/String;"⟩ : MethodName)) hown (mvT hZ (wi hw 5 rfl)) (mvT hZ (wi hw 6 rfl)) (mvT hZ (wi hw 3 rfl)) (mvT hZ (wi hw 7 rfl)) (by decide) (backOf (W := 0) (rm_mk_4 l Z a0 hw [] G1 xa xb xc xd xe h0 h0.size Z0f (O2) (P5) (ch_xa) (ch_xb) (ch_xc) (ch_xd) OldF) hZ (wi hw 7 rfl) (wi hw 3 rfl) (by decide) (by decide)) (g := (mkF m 53 #[.val (.int ln), .val (.int ya), .val (.int yb), .val (.int yc), .val (.int yd), .val (.int ye), .val (.int 4), .val (.int xa), .val (.int xb), .val (.int xc), .val (.int xd), .val (.int xe), .unset, .unset, .unset, .unset] [(.int xe), (.int xd), (.int xc), (.int xb), (.int xa), (.int 4)])) rfl (by rw [hml]; rfl) (argsL := [(.int 4), (.int xa), (.int xb), (.int xc), (.int xd), (.int xe)]) (rest := []) (lenOf pd__ICCCCC_Ljava_lang_String_ rfl) rfl (by show 2 * 0 + _ ≤ _; exact Nat.le_of_eq rfl) (hb hby at_53) (fun _ _ => ⟨rfl, K890, (by decide : 0 + 3 ≤ _), (by decide : 0 + 12 ≤ _)⟩)
  dsimp only [Pt.U, Pt.locs, Pt.cells, Pt.slots] at X1083 l1083 y1083 z1083 st1083 hQ1083
  subst l1083 y1083 z1083
  obtain ⟨ra_1083, t_1083, kt_1083, rfl, NQ1083, K1083, pq1083_0, pq1083_1, fq1083_0, fq1083_1, fq1083_2, fq1083_3⟩ := hQ1083
  have N1084 := Fr.app N891 NQ1083
  have Old1087 := OldF.keep K1083 all0
  have Kp1088 : Keep h0 T1083.heap [] := K00.trans K1083 all0
  have Z1089 := Nat.le_trans Z0f K1083.1
  have hk1090 := Nat.le_trans hk0 K1083.1
  have CH1091 := CHv.keep K1083 (fun x hx => by cases hx) hI
  refine Rch.st (fun _ k => st1083 _ k) ?_
  show Rch p e below T1083 (mkF m 56 #[.val (.int ln), .val (.int ya), .val (.int yb), .val (.int yc), .val (.int yd), .val (.int ye), .val (.int 4), .val (.int xa), .val (.int xb), .val (.int xc), .val (.int xd), .val (.int xe), .unset, .unset, .unset, .unset] [(.ref ra_1083)]) _
  refine w_astore (pc' := 58) (l' := #[.val (.int ln), .val (.int ya), .val (.int yb), .val (.int yc), .val (.int yd), .val (.int ye), .val (.int 4), .val (.int xa), .val (.int xb), .val (.int xc), .val (.int xd), .val (.int xe), .val (.ref ra_1083), .unset, .unset, .unset]) X1083 hx hby at_56 rfl rfl rfl ?_
  refine w_aload (pc' := 60) X1083 hx hby at_58 rfl rfl rfl ?_
  have f1092 : Arv Z T1083.heap t_1083 kt_1083 .byte (4 : Int32) (([own_by xa, own_by xb, own_by xc, own_by xd] : List Int32).map Value.int) (.int (0 : Int32)) := fq1083_3
  by_cases hc1093 : xd = 47
  ·skip
   obtain ⟨_, _, ⟨T1094, L1094, k1094, n1094⟩, -, X1094, ⟨Lc1094, hQ1094, l1094, y1094, z1094⟩, st1094⟩ := Jvm.LawKit.callS X1083 hx (y := (⟨"com/example/fascicle/fascicle/Entries", "directoryOf", "(Ljava/lang/String;)Ljava/lang/String;"⟩ : MethodName)) hown (mvT hZ (wi hw 16 rfl)) (mvT hZ (wi hw 17 rfl)) (mvT hZ (wi hw 18 rfl)) (mvT hZ (wi hw 19 rfl)) (by decide) (backOf (W := 0) (rm_di_pos l Z a0 hw [] G1 G3 ra_1083 t_1083 kt_1083 4 ([own_by xa, own_by xb, own_by xc, own_by xd] : List Int32) 3 T1083.heap h0.size Z1089 (O2) (P5) (O4) (rG3) fq1083_0 fq1083_1 fq1083_2 f1092 (by decide) (by rw [show (4 : Int32).toNatClampNeg = 4 from by decide]; show (if own_by xd = 47 then Int32.ofNat 3 else (if own_by xc = 47 then Int32.ofNat 2 else (if own_by xb = 47 then Int32.ofNat 1 else (if own_by xa = 47 then Int32.ofNat 0 else (-1 : Int32))))) = _; rw [if_pos ((own_by47 ch_xd).2 hc1093)]; rfl) (by decide) (by decide) (by decide) (by decide) (by decide) (by decide) (by decide) Old1087) hZ (wi hw 19 rfl) (wi hw 18 rfl) (by decide) (by decide)) (g := (mkF m 60 #[.val (.int ln), .val (.int ya), .val (.int yb), .val (.int yc), .val (.int yd), .val (.int ye), .val (.int 4), .val (.int xa), .val (.int xb), .val (.int xc), .val (.int xd), .val (.int xe), .val (.ref ra_1083), .unset, .unset, .unset] [(.ref ra_1083)])) rfl (by rw [hml]; rfl) (argsL := [(.ref ra_1083)]) (rest := []) (lenOf pd__Ljava_lang_String__Ljava_lang_String_ rfl) rfl (by show 2 * 0 + _ ≤ _; exact Nat.le_of_eq rfl) (hb hby at_60) (fun _ _ => ⟨rfl, (rfl : T1083.heap = T1083.heap), (by decide : 3 + 2 ≤ _), (by decide : 12 + 12 ≤ _)⟩)
   dsimp only [Pt.U, Pt.locs, Pt.cells, Pt.slots] at X1094 l1094 y1094 z1094 st1094 hQ1094
   subst l1094 y1094 z1094
   obtain ⟨ra_1094, t_1094, kt_1094, rfl, NQ1094, K1094, pq1094_0, pq1094_1, fq1094_0, fq1094_1, fq1094_2, fq1094_3⟩ := hQ1094
   have N1095 := Fr.app N1084 NQ1094
   have Old1106 := Old1087.keep K1094 all0
   have Kp1107 : Keep h0 T1094.heap [] := Kp1088.trans K1094 all0
   have Z1108 := Nat.le_trans Z1089 K1094.1
   have hk1109 := Nat.le_trans hk1090 K1094.1
   have CH1110 := CHv.keep K1094 (fun x hx => by cases hx) CH1091
   refine Rch.st (fun _ k => st1094 _ k) ?_
   show Rch p e below T1094 (mkF m 63 #[.val (.int ln), .val (.int ya), .val (.int yb), .val (.int yc), .val (.int yd), .val (.int ye), .val (.int 4), .val (.int xa), .val (.int xb), .val (.int xc), .val (.int xd), .val (.int xe), .val (.ref ra_1083), .unset, .unset, .unset] [(.ref ra_1094)]) _
   have f1111 : Arv Z T1094.heap t_1094 kt_1094 .byte (3 : Int32) [(.int (own_by xa)), (.int (own_by xb)), (.int (own_by xc))] (.int (0 : Int32)) := by have z := fq1094_3; rw [show own_take (([own_by xa, own_by xb, own_by xc, own_by xd] : List Int32).map Value.int) (.int (0 : Int32)) (3 : Int32).toNatClampNeg = [(.int (own_by xa)), (.int (own_by xb)), (.int (own_by xc))] from by rw [show (3 : Int32).toNatClampNeg = 3 from by decide]; rfl] at z; exact z
   refine w_astore (pc' := 65) (l' := #[.val (.int ln), .val (.int ya), .val (.int yb), .val (.int yc), .val (.int yd), .val (.int ye), .val (.int 4), .val (.int xa), .val (.int xb), .val (.int xc), .val (.int xd), .val (.int xe), .val (.ref ra_1083), .val (.ref ra_1094), .unset, .unset]) X1094 hx hby at_63 rfl rfl rfl ?_
   refine w_iconst (pc' := 66) (v := (-1)) X1094 hx hby at_65 rfl rfl ?_
   refine w_istore (pc' := 68) (l' := #[.val (.int ln), .val (.int ya), .val (.int yb), .val (.int yc), .val (.int yd), .val (.int ye), .val (.int 4), .val (.int xa), .val (.int xb), .val (.int xc), .val (.int xd), .val (.int xe), .val (.ref ra_1083), .val (.ref ra_1094), .val (.int (-1 : Int32)), .unset]) X1094 hx hby at_66 rfl rfl ?_
   refine w_iload (pc' := 70) X1094 hx hby at_68 rfl rfl ?_
   refine w_iconst (pc' := 71) (v := 4) X1094 hx hby at_70 rfl rfl ?_
   refine w_icmpYes (pc' := 87) X1094 hx hby at_71 (XT.ii_le_t (by decide)) (by decide) ?_
   refine w_iload (pc' := 89) X1094 hx hby at_87 rfl rfl ?_
   refine w_iconst (pc' := 90) (v := 3) X1094 hx hby at_89 rfl rfl ?_
   refine w_icmpNo (pc' := 93) X1094 hx hby at_90 (XT.ii_le_f (by decide)) rfl ?_
   refine w_iload (pc' := 95) X1094 hx hby at_93 rfl rfl ?_
   refine w_bipush (pc' := 97) (v := 47) X1094 hx hby at_95 rfl rfl ?_
   refine w_icmpNo (pc' := 100) X1094 hx hby at_97 (XT.ii_ne_f (hc1093)) rfl ?_
   refine w_iconst (pc' := 101) (v := 3) X1094 hx hby at_100 rfl rfl ?_
   refine w_istore (pc' := 103) (l' := #[.val (.int ln), .val (.int ya), .val (.int yb), .val (.int yc), .val (.int yd), .val (.int ye), .val (.int 4), .val (.int xa), .val (.int xb), .val (.int xc), .val (.int xd), .val (.int xe), .val (.ref ra_1083), .val (.ref ra_1094), .val (.int 3), .unset]) X1094 hx hby at_101 rfl rfl ?_
   refine w_goto (pc' := 159) X1094 hx hby at_103 (by decide) ?_
   refine w_iload (pc' := 161) X1094 hx hby at_159 rfl rfl ?_
   refine w_ifYes (pc' := 168) X1094 hx hby at_161 (XT.i0_ge_t (by decide)) (by decide) ?_
   refine w_iload (pc' := 170) X1094 hx hby at_168 rfl rfl ?_
   refine w_istore (pc' := 172) (l' := #[.val (.int ln), .val (.int ya), .val (.int yb), .val (.int yc), .val (.int yd), .val (.int ye), .val (.int 4), .val (.int xa), .val (.int xb), .val (.int xc), .val (.int xd), .val (.int xe), .val (.ref ra_1083), .val (.ref ra_1094), .val (.int 3), .val (.int 3)]) X1094 hx hby at_170 rfl rfl ?_
   refine w_aload (pc' := 174) X1094 hx hby at_172 rfl rfl rfl ?_
   refine w_nullNo (pc' := 177) X1094 hx hby at_174 rfl (fun q => nomatch q) rfl ?_
   refine w_aload (pc' := 179) X1094 hx hby at_177 rfl rfl rfl ?_
   obtain ⟨cq1112, kq1112, q1112a, q1112b, q1112c⟩ := isOf hZ (rfl : T1094.heap = T1094.heap) fq1094_0
   obtain ⟨_, _, ⟨T1112, L1112, k1112, n1112⟩, -, X1112, ⟨Lc1112, hQ1112, l1112, y1112, z1112⟩, st1112⟩ := X1094.virtualBack hx (y := (⟨"java/lang/String", "length", "()I"⟩ : MethodName)) (z := (⟨"java/lang/String", "length", "()I"⟩ : MethodName)) hown (mvT hZ (wi hw 60 rfl)) (mvT hZ (wi hw 26 rfl)) (notFace_of_selects (args := #[]) (mvT hZ (wi hw 28 rfl))) (mvT hZ (wi hw 28 rfl)) (mvT hZ (wi hw 27 rfl)) (by decide) (backOf (W := 0) (rm_length l Z a0 hw [] G1 ra_1094 0 t_1094 kt_1094 3 ([(.int (own_by xa)), (.int (own_by xb)), (.int (own_by xc))]) (.int 0) T1094.heap h0.size Z1108 (O2) (P5) fq1094_1 (Or.inl rfl) fq1094_2 f1111 fq1094_0 Old1106) hZ (wi hw 29 rfl) (wi hw 9 rfl) (by decide) (by decide)) q1112a q1112c (g := (mkF m 179 #[.val (.int ln), .val (.int ya), .val (.int yb), .val (.int yc), .val (.int yd), .val (.int ye), .val (.int 4), .val (.int xa), .val (.int xb), .val (.int xc), .val (.int xd), .val (.int xe), .val (.ref ra_1083), .val (.ref ra_1094), .val (.int 3), .val (.int 3)] [(.ref ra_1094)])) rfl (by rw [hml]; rfl) (Steps.refl _) (argsL := []) (rest := []) (lenOf pd___I rfl) rfl (by show 2 * 0 + _ ≤ _; exact Nat.le_of_eq rfl) (hb hby at_179) (fun _ _ => ⟨rfl, (rfl : T1094.heap = T1094.heap), (by decide : 5 + 0 ≤ _), (by decide : 24 + 0 ≤ _)⟩)
   dsimp only [Pt.U, Pt.locs, Pt.cells, Pt.slots] at X1112 l1112 y1112 z1112 st1112 hQ1112
   subst l1112 y1112 z1112
   obtain ⟨rfl, NQ1112, K1112⟩ := hQ1112
   have N1113 := Fr.app N1095 NQ1112
   refine Rch.st (fun _ k => st1112.trans k) ?_
   show Rch p e below T1112 (mkF m 182 #[.val (.int ln), .val (.int ya), .val (.int yb), .val (.int yc), .val (.int yd), .val (.int ye), .val (.int 4), .val (.int xa), .val (.int xb), .val (.int xc), .val (.int xd), .val (.int xe), .val (.ref ra_1083), .val (.ref ra_1094), .val (.int 3), .val (.int 3)] [(.int ((3 : Int32) >>> ((0 : Int32) &&& 31)))]) _
   refine w_iload (pc' := 184) X1112 hx hby at_182 rfl rfl ?_
   refine w_icmpYes (pc' := 189) X1112 hx hby at_184 (XT.ii_eq_t (by decide)) (by decide) ?_
   refine w_iload (pc' := 191) X1112 hx hby at_189 rfl rfl ?_
   refine w_ifNo (pc' := 194) X1112 hx hby at_191 (XT.i0_le_f (by decide)) rfl ?_
   refine w_aload (pc' := 196) X1112 hx hby at_194 rfl rfl rfl ?_
   refine w_iconst (pc' := 197) (v := 0) X1112 hx hby at_196 rfl rfl ?_
   obtain ⟨cq1114, kq1114, q1114a, q1114b, q1114c⟩ := isOf hZ K1112 fq1094_0
   obtain ⟨_, _, ⟨T1114, L1114, k1114, n1114⟩, -, X1114, ⟨Lc1114, hQ1114, l1114, y1114, z1114⟩, st1114⟩ := X1112.virtualBack hx (y := (⟨"java/lang/String", "charAt", "(I)C"⟩ : MethodName)) (z := (⟨"java/lang/String", "charAt", "(I)C"⟩ : MethodName)) hown (mvT hZ (wi hw 118 rfl)) (mvT hZ (wi hw 119 rfl)) (notFace_of_selects (args := #[]) (mvT hZ (wi hw 121 rfl))) (mvT hZ (wi hw 121 rfl)) (mvT hZ (wi hw 120 rfl)) (by decide) (backOf (W := 0) (rm_chA l Z a0 hw [] G1 ra_1094 t_1094 kt_1094 3 ([(.int (own_by xa)), (.int (own_by xb)), (.int (own_by xc))]) (.int 0) 0 (own_by xa) G3 T1094.heap h0.size Z1108 (O2) (P5) (O4) (rG3) fq1094_0 fq1094_1 fq1094_2 f1111 (by decide) (by decide) (by rfl) Old1106) hZ (wi hw 122 rfl) (wi hw 9 rfl) (by decide) (by decide)) q1114a q1114c (g := (mkF m 197 #[.val (.int ln), .val (.int ya), .val (.int yb), .val (.int yc), .val (.int yd), .val (.int ye), .val (.int 4), .val (.int xa), .val (.int xb), .val (.int xc), .val (.int xd), .val (.int xe), .val (.ref ra_1083), .val (.ref ra_1094), .val (.int 3), .val (.int 3)] [(.int 0), (.ref ra_1094)])) rfl (by rw [hml]; rfl) (Steps.refl _) (argsL := [(.int 0)]) (rest := []) (lenOf pd__I_C rfl) rfl (by show 2 * 0 + _ ≤ _; exact Nat.le_of_eq rfl) (hb hby at_197) (fun _ _ => ⟨rfl, K1112, (by decide : 5 + 0 ≤ _), (by decide : 24 + 0 ≤ _)⟩)
   dsimp only [Pt.U, Pt.locs, Pt.cells, Pt.slots] at X1114 l1114 y1114 z1114 st1114 hQ1114
   subst l1114 y1114 z1114
   obtain ⟨rfl, NQ1114, K1114⟩ := hQ1114
   have N1115 := Fr.app N1113 NQ1114
   refine Rch.st (fun _ k => st1114.trans k) ?_
   show Rch p e below T1114 (mkF m 200 #[.val (.int ln), .val (.int ya), .val (.int yb), .val (.int yc), .val (.int yd), .val (.int ye), .val (.int 4), .val (.int xa), .val (.int xb), .val (.int xc), .val (.int xd), .val (.int xe), .val (.ref ra_1083), .val (.ref ra_1094), .val (.int 3), .val (.int 3)] [(.int (nar .char ((own_by xa) &&& (255 : Int32))))]) _
   have r1116 : (nar .char ((own_by xa) &&& (255 : Int32))) = xa := ch_xa.by8
   rw [r1116]
   show Rch p e below T1114 (mkF m 200 #[.val (.int ln), .val (.int ya), .val (.int yb), .val (.int yc), .val (.int yd), .val (.int ye), .val (.int 4), .val (.int xa), .val (.int xb), .val (.int xc), .val (.int xd), .val (.int xe), .val (.ref ra_1083), .val (.ref ra_1094), .val (.int 3), .val (.int 3)] [(.int xa)]) _
   refine w_iload (pc' := 202) X1114 hx hby at_200 rfl rfl ?_
   refine w_icmpNo (pc' := 205) X1114 hx hby at_202 (XT.ii_ne_f (rfl)) rfl ?_
   refine w_iload (pc' := 207) X1114 hx hby at_205 rfl rfl ?_
   refine w_iconst (pc' := 208) (v := 1) X1114 hx hby at_207 rfl rfl ?_
   refine w_icmpNo (pc' := 211) X1114 hx hby at_208 (XT.ii_le_f (by decide)) rfl ?_
   refine w_aload (pc' := 213) X1114 hx hby at_211 rfl rfl rfl ?_
   refine w_iconst (pc' := 214) (v := 1) X1114 hx hby at_213 rfl rfl ?_
   obtain ⟨cq1117, kq1117, q1117a, q1117b, q1117c⟩ := isOf hZ K1114 fq1094_0
   obtain ⟨_, _, ⟨T1117, L1117, k1117, n1117⟩, -, X1117, ⟨Lc1117, hQ1117, l1117, y1117, z1117⟩, st1117⟩ := X1114.virtualBack hx (y := (⟨"java/lang/String", "charAt", "(I)C"⟩ : MethodName)) (z := (⟨"java/lang/String", "charAt", "(I)C"⟩ : MethodName)) hown (mvT hZ (wi hw 118 rfl)) (mvT hZ (wi hw 119 rfl)) (notFace_of_selects (args := #[]) (mvT hZ (wi hw 121 rfl))) (mvT hZ (wi hw 121 rfl)) (mvT hZ (wi hw 120 rfl)) (by decide) (backOf (W := 0) (rm_chA l Z a0 hw [] G1 ra_1094 t_1094 kt_1094 3 ([(.int (own_by xa)), (.int (own_by xb)), (.int (own_by xc))]) (.int 0) 1 (own_by xb) G3 T1094.heap h0.size Z1108 (O2) (P5) (O4) (rG3) fq1094_0 fq1094_1 fq1094_2 f1111 (by decide) (by decide) (by rfl) Old1106) hZ (wi hw 122 rfl) (wi hw 9 rfl) (by decide) (by decide)) q1117a q1117c (g := (mkF m 214 #[.val (.int ln), .val (.int ya), .val (.int yb), .val (.int yc), .val (.int yd), .val (.int ye), .val (.int 4), .val (.int xa), .val (.int xb), .val (.int xc), .val (.int xd), .val (.int xe), .val (.ref ra_1083), .val (.ref ra_1094), .val (.int 3), .val (.int 3)] [(.int 1), (.ref ra_1094)])) rfl (by rw [hml]; rfl) (Steps.refl _) (argsL := [(.int 1)]) (rest := []) (lenOf pd__I_C rfl) rfl (by show 2 * 0 + _ ≤ _; exact Nat.le_of_eq rfl) (hb hby at_214) (fun _ _ => ⟨rfl, K1114, (by decide : 5 + 0 ≤ _), (by decide : 24 + 0 ≤ _)⟩)
   dsimp only [Pt.U, Pt.locs, Pt.cells, Pt.slots] at X1117 l1117 y1117 z1117 st1117 hQ1117
   subst l1117 y1117 z1117
   obtain ⟨rfl, NQ1117, K1117⟩ := hQ1117
   have N1118 := Fr.app N1115 NQ1117
   refine Rch.st (fun _ k => st1117.trans k) ?_
   show Rch p e below T1117 (mkF m 217 #[.val (.int ln), .val (.int ya), .val (.int yb), .val (.int yc), .val (.int yd), .val (.int ye), .val (.int 4), .val (.int xa), .val (.int xb), .val (.int xc), .val (.int xd), .val (.int xe), .val (.ref ra_1083), .val (.ref ra_1094), .val (.int 3), .val (.int 3)] [(.int (nar .char ((own_by xb) &&& (255 : Int32))))]) _
   have r1119 : (nar .char ((own_by xb) &&& (255 : Int32))) = xb := ch_xb.by8
   rw [r1119]
   show Rch p e below T1117 (mkF m 217 #[.val (.int ln), .val (.int ya), .val (.int yb), .val (.int yc), .val (.int yd), .val (.int ye), .val (.int 4), .val (.int xa), .val (.int xb), .val (.int xc), .val (.int xd), .val (.int xe), .val (.ref ra_1083), .val (.ref ra_1094), .val (.int 3), .val (.int 3)] [(.int xb)]) _
   refine w_iload (pc' := 219) X1117 hx hby at_217 rfl rfl ?_
   refine w_icmpNo (pc' := 222) X1117 hx hby at_219 (XT.ii_ne_f (rfl)) rfl ?_
   refine w_iload (pc' := 224) X1117 hx hby at_222 rfl rfl ?_
   refine w_iconst (pc' := 225) (v := 2) X1117 hx hby at_224 rfl rfl ?_
   refine w_icmpNo (pc' := 228) X1117 hx hby at_225 (XT.ii_le_f (by decide)) rfl ?_
   refine w_aload (pc' := 230) X1117 hx hby at_228 rfl rfl rfl ?_
   refine w_iconst (pc' := 231) (v := 2) X1117 hx hby at_230 rfl rfl ?_
   obtain ⟨cq1120, kq1120, q1120a, q1120b, q1120c⟩ := isOf hZ K1117 fq1094_0
   obtain ⟨_, _, ⟨T1120, L1120, k1120, n1120⟩, -, X1120, ⟨Lc1120, hQ1120, l1120, y1120, z1120⟩, st1120⟩ := X1117.virtualBack hx (y := (⟨"java/lang/String", "charAt", "(I)C"⟩ : MethodName)) (z := (⟨"java/lang/String", "charAt", "(I)C"⟩ : MethodName)) hown (mvT hZ (wi hw 118 rfl)) (mvT hZ (wi hw 119 rfl)) (notFace_of_selects (args := #[]) (mvT hZ (wi hw 121 rfl))) (mvT hZ (wi hw 121 rfl)) (mvT hZ (wi hw 120 rfl)) (by decide) (backOf (W := 0) (rm_chA l Z a0 hw [] G1 ra_1094 t_1094 kt_1094 3 ([(.int (own_by xa)), (.int (own_by xb)), (.int (own_by xc))]) (.int 0) 2 (own_by xc) G3 T1094.heap h0.size Z1108 (O2) (P5) (O4) (rG3) fq1094_0 fq1094_1 fq1094_2 f1111 (by decide) (by decide) (by rfl) Old1106) hZ (wi hw 122 rfl) (wi hw 9 rfl) (by decide) (by decide)) q1120a q1120c (g := (mkF m 231 #[.val (.int ln), .val (.int ya), .val (.int yb), .val (.int yc), .val (.int yd), .val (.int ye), .val (.int 4), .val (.int xa), .val (.int xb), .val (.int xc), .val (.int xd), .val (.int xe), .val (.ref ra_1083), .val (.ref ra_1094), .val (.int 3), .val (.int 3)] [(.int 2), (.ref ra_1094)])) rfl (by rw [hml]; rfl) (Steps.refl _) (argsL := [(.int 2)]) (rest := []) (lenOf pd__I_C rfl) rfl (by show 2 * 0 + _ ≤ _; exact Nat.le_of_eq rfl) (hb hby at_231) (fun _ _ => ⟨rfl, K1117, (by decide : 5 + 0 ≤ _), (by decide : 24 + 0 ≤ _)⟩)
   dsimp only [Pt.U, Pt.locs, Pt.cells, Pt.slots] at X1120 l1120 y1120 z1120 st1120 hQ1120
   subst l1120 y1120 z1120
   obtain ⟨rfl, NQ1120, K1120⟩ := hQ1120
   have N1121 := Fr.app N1118 NQ1120
   refine Rch.st (fun _ k => st1120.trans k) ?_
   show Rch p e below T1120 (mkF m 234 #[.val (.int ln), .val (.int ya), .val (.int yb), .val (.int yc), .val (.int yd), .val (.int ye), .val (.int 4), .val (.int xa), .val (.int xb), .val (.int xc), .val (.int xd), .val (.int xe), .val (.ref ra_1083), .val (.ref ra_1094), .val (.int 3), .val (.int 3)] [(.int (nar .char ((own_by xc) &&& (255 : Int32))))]) _
   have r1122 : (nar .char ((own_by xc) &&& (255 : Int32))) = xc := ch_xc.by8
   rw [r1122]
   show Rch p e below T1120 (mkF m 234 #[.val (.int ln), .val (.int ya), .val (.int yb), .val (.int yc), .val (.int yd), .val (.int ye), .val (.int 4), .val (.int xa), .val (.int xb), .val (.int xc), .val (.int xd), .val (.int xe), .val (.ref ra_1083), .val (.ref ra_1094), .val (.int 3), .val (.int 3)] [(.int xc)]) _
   refine w_iload (pc' := 236) X1120 hx hby at_234 rfl rfl ?_
   refine w_icmpNo (pc' := 239) X1120 hx hby at_236 (XT.ii_ne_f (rfl)) rfl ?_
   refine w_iload (pc' := 241) X1120 hx hby at_239 rfl rfl ?_
   refine w_iconst (pc' := 242) (v := 3) X1120 hx hby at_241 rfl rfl ?_
   refine w_icmpYes (pc' := 256) X1120 hx hby at_242 (XT.ii_le_t (by decide)) (by decide) ?_
   refine w_iconst (pc' := 257) (v := 1) X1120 hx hby at_256 rfl rfl ?_
   refine w_goto (pc' := 261) X1120 hx hby at_257 (by decide) ?_
   exact Rch.retVW X1120 hx hS0 (by rw [K1120]; exact hk1109) Bd.returns rfl (Or.inl ⟨rfl, by simp, _, rfl⟩) (hb hby at_261) (by rw [K1120]; exact ⟨rfl, (own_Fr Z0 N1121), Kp1107, own_chv (s := s) (vm0 := s.vm) hZ hEL X1120.warmed CH1110⟩) (by decide) (by decide)
  ·skip
   by_cases hc1123 : xc = 47
   ·skip
    obtain ⟨_, _, ⟨T1124, L1124, k1124, n1124⟩, -, X1124, ⟨Lc1124, hQ1124, l1124, y1124, z1124⟩, st1124⟩ := Jvm.LawKit.callS X1083 hx (y := (⟨"com/example/fascicle/fascicle/Entries", "directoryOf", "(Ljava/lang/String;)Ljava/lang/String;"⟩ : MethodName)) hown (mvT hZ (wi hw 16 rfl)) (mvT hZ (wi hw 17 rfl)) (mvT hZ (wi hw 18 rfl)) (mvT hZ (wi hw 19 rfl)) (by decide) (backOf (W := 0) (rm_di_pos l Z a0 hw [] G1 G3 ra_1083 t_1083 kt_1083 4 ([own_by xa, own_by xb, own_by xc, own_by xd] : List Int32) 2 T1083.heap h0.size Z1089 (O2) (P5) (O4) (rG3) fq1083_0 fq1083_1 fq1083_2 f1092 (by decide) (by rw [show (4 : Int32).toNatClampNeg = 4 from by decide]; show (if own_by xd = 47 then Int32.ofNat 3 else (if own_by xc = 47 then Int32.ofNat 2 else (if own_by xb = 47 then Int32.ofNat 1 else (if own_by xa = 47 then Int32.ofNat 0 else (-1 : Int32))))) = _; rw [if_neg (mt (own_by47 ch_xd).1 hc1093), if_pos ((own_by47 ch_xc).2 hc1123)]; rfl) (by decide) (by decide) (by decide) (by decide) (by decide) (by decide) (by decide) Old1087) hZ (wi hw 19 rfl) (wi hw 18 rfl) (by decide) (by decide)) (g := (mkF m 60 #[.val (.int ln), .val (.int ya), .val (.int yb), .val (.int yc), .val (.int yd), .val (.int ye), .val (.int 4), .val (.int xa), .val (.int xb), .val (.int xc), .val (.int xd), .val (.int xe), .val (.ref ra_1083), .unset, .unset, .unset] [(.ref ra_1083)])) rfl (by rw [hml]; rfl) (argsL := [(.ref ra_1083)]) (rest := []) (lenOf pd__Ljava_lang_String__Ljava_lang_String_ rfl) rfl (by show 2 * 0 + _ ≤ _; exact Nat.le_of_eq rfl) (hb hby at_60) (fun _ _ => ⟨rfl, (rfl : T1083.heap = T1083.heap), (by decide : 3 + 2 ≤ _), (by decide : 12 + 12 ≤ _)⟩)
    dsimp only [Pt.U, Pt.locs, Pt.cells, Pt.slots] at X1124 l1124 y1124 z1124 st1124 hQ1124
    subst l1124 y1124 z1124
    obtain ⟨ra_1124, t_1124, kt_1124, rfl, NQ1124, K1124, pq1124_0, pq1124_1, fq1124_0, fq1124_1, fq1124_2, fq1124_3⟩ := hQ1124
    have N1125 := Fr.app N1084 NQ1124
    have Old1136 := Old1087.keep K1124 all0
    have Kp1137 : Keep h0 T1124.heap [] := Kp1088.trans K1124 all0
    have Z1138 := Nat.le_trans Z1089 K1124.1
    have hk1139 := Nat.le_trans hk1090 K1124.1
    have CH1140 := CHv.keep K1124 (fun x hx => by cases hx) CH1091
    refine Rch.st (fun _ k => st1124 _ k) ?_
    show Rch p e below T1124 (mkF m 63 #[.val (.int ln), .val (.int ya), .val (.int yb), .val (.int yc), .val (.int yd), .val (.int ye), .val (.int 4), .val (.int xa), .val (.int xb), .val (.int xc), .val (.int xd), .val (.int xe), .val (.ref ra_1083), .unset, .unset, .unset] [(.ref ra_1124)]) _
    have f1141 : Arv Z T1124.heap t_1124 kt_1124 .byte (2 : Int32) [(.int (own_by xa)), (.int (own_by xb))] (.int (0 : Int32)) := by have z := fq1124_3; rw [show own_take (([own_by xa, own_by xb, own_by xc, own_by xd] : List Int32).map Value.int) (.int (0 : Int32)) (2 : Int32).toNatClampNeg = [(.int (own_by xa)), (.int (own_by xb))] from by rw [show (2 : Int32).toNatClampNeg = 2 from by decide]; rfl] at z; exact z
    refine w_astore (pc' := 65) (l' := #[.val (.int ln), .val (.int ya), .val (.int yb), .val (.int yc), .val (.int yd), .val (.int ye), .val (.int 4), .val (.int xa), .val (.int xb), .val (.int xc), .val (.int xd), .val (.int xe), .val (.ref ra_1083), .val (.ref ra_1124), .unset, .unset]) X1124 hx hby at_63 rfl rfl rfl ?_
    refine w_iconst (pc' := 66) (v := (-1)) X1124 hx hby at_65 rfl rfl ?_
    refine w_istore (pc' := 68) (l' := #[.val (.int ln), .val (.int ya), .val (.int yb), .val (.int yc), .val (.int yd), .val (.int ye), .val (.int 4), .val (.int xa), .val (.int xb), .val (.int xc), .val (.int xd), .val (.int xe), .val (.ref ra_1083), .val (.ref ra_1124), .val (.int (-1 : Int32)), .unset]) X1124 hx hby at_66 rfl rfl ?_
    refine w_iload (pc' := 70) X1124 hx hby at_68 rfl rfl ?_
    refine w_iconst (pc' := 71) (v := 4) X1124 hx hby at_70 rfl rfl ?_
    refine w_icmpYes (pc' := 87) X1124 hx hby at_71 (XT.ii_le_t (by decide)) (by decide) ?_
    refine w_iload (pc' := 89) X1124 hx hby at_87 rfl rfl ?_
    refine w_iconst (pc' := 90) (v := 3) X1124 hx hby at_89 rfl rfl ?_
    refine w_icmpNo (pc' := 93) X1124 hx hby at_90 (XT.ii_le_f (by decide)) rfl ?_
    refine w_iload (pc' := 95) X1124 hx hby at_93 rfl rfl ?_
    refine w_bipush (pc' := 97) (v := 47) X1124 hx hby at_95 rfl rfl ?_
    refine w_icmpYes (pc' := 106) X1124 hx hby at_97 (XT.ii_ne_t (hc1093)) (by decide) ?_
    refine w_iload (pc' := 108) X1124 hx hby at_106 rfl rfl ?_
    refine w_iconst (pc' := 109) (v := 2) X1124 hx hby at_108 rfl rfl ?_
    refine w_icmpNo (pc' := 112) X1124 hx hby at_109 (XT.ii_le_f (by decide)) rfl ?_
    refine w_iload (pc' := 114) X1124 hx hby at_112 rfl rfl ?_
    refine w_bipush (pc' := 116) (v := 47) X1124 hx hby at_114 rfl rfl ?_
    refine w_icmpNo (pc' := 119) X1124 hx hby at_116 (XT.ii_ne_f (hc1123)) rfl ?_
    refine w_iconst (pc' := 120) (v := 2) X1124 hx hby at_119 rfl rfl ?_
    refine w_istore (pc' := 122) (l' := #[.val (.int ln), .val (.int ya), .val (.int yb), .val (.int yc), .val (.int yd), .val (.int ye), .val (.int 4), .val (.int xa), .val (.int xb), .val (.int xc), .val (.int xd), .val (.int xe), .val (.ref ra_1083), .val (.ref ra_1124), .val (.int 2), .unset]) X1124 hx hby at_120 rfl rfl ?_
    refine w_goto (pc' := 159) X1124 hx hby at_122 (by decide) ?_
    refine w_iload (pc' := 161) X1124 hx hby at_159 rfl rfl ?_
    refine w_ifYes (pc' := 168) X1124 hx hby at_161 (XT.i0_ge_t (by decide)) (by decide) ?_
    refine w_iload (pc' := 170) X1124 hx hby at_168 rfl rfl ?_
    refine w_istore (pc' := 172) (l' := #[.val (.int ln), .val (.int ya), .val (.int yb), .val (.int yc), .val (.int yd), .val (.int ye), .val (.int 4), .val (.int xa), .val (.int xb), .val (.int xc), .val (.int xd), .val (.int xe), .val (.ref ra_1083), .val (.ref ra_1124), .val (.int 2), .val (.int 2)]) X1124 hx hby at_170 rfl rfl ?_
    refine w_aload (pc' := 174) X1124 hx hby at_172 rfl rfl rfl ?_
    refine w_nullNo (pc' := 177) X1124 hx hby at_174 rfl (fun q => nomatch q) rfl ?_
    refine w_aload (pc' := 179) X1124 hx hby at_177 rfl rfl rfl ?_
    obtain ⟨cq1142, kq1142, q1142a, q1142b, q1142c⟩ := isOf hZ (rfl : T1124.heap = T1124.heap) fq1124_0
    obtain ⟨_, _, ⟨T1142, L1142, k1142, n1142⟩, -, X1142, ⟨Lc1142, hQ1142, l1142, y1142, z1142⟩, st1142⟩ := X1124.virtualBack hx (y := (⟨"java/lang/String", "length", "()I"⟩ : MethodName)) (z := (⟨"java/lang/String", "length", "()I"⟩ : MethodName)) hown (mvT hZ (wi hw 60 rfl)) (mvT hZ (wi hw 26 rfl)) (notFace_of_selects (args := #[]) (mvT hZ (wi hw 28 rfl))) (mvT hZ (wi hw 28 rfl)) (mvT hZ (wi hw 27 rfl)) (by decide) (backOf (W := 0) (rm_length l Z a0 hw [] G1 ra_1124 0 t_1124 kt_1124 2 ([(.int (own_by xa)), (.int (own_by xb))]) (.int 0) T1124.heap h0.size Z1138 (O2) (P5) fq1124_1 (Or.inl rfl) fq1124_2 f1141 fq1124_0 Old1136) hZ (wi hw 29 rfl) (wi hw 9 rfl) (by decide) (by decide)) q1142a q1142c (g := (mkF m 179 #[.val (.int ln), .val (.int ya), .val (.int yb), .val (.int yc), .val (.int yd), .val (.int ye), .val (.int 4), .val (.int xa), .val (.int xb), .val (.int xc), .val (.int xd), .val (.int xe), .val (.ref ra_1083), .val (.ref ra_1124), .val (.int 2), .val (.int 2)] [(.ref ra_1124)])) rfl (by rw [hml]; rfl) (Steps.refl _) (argsL := []) (rest := []) (lenOf pd___I rfl) rfl (by show 2 * 0 + _ ≤ _; exact Nat.le_of_eq rfl) (hb hby at_179) (fun _ _ => ⟨rfl, (rfl : T1124.heap = T1124.heap), (by decide : 5 + 0 ≤ _), (by decide : 24 + 0 ≤ _)⟩)
    dsimp only [Pt.U, Pt.locs, Pt.cells, Pt.slots] at X1142 l1142 y1142 z1142 st1142 hQ1142
    subst l1142 y1142 z1142
    obtain ⟨rfl, NQ1142, K1142⟩ := hQ1142
    have N1143 := Fr.app N1125 NQ1142
    refine Rch.st (fun _ k => st1142.trans k) ?_
    show Rch p e below T1142 (mkF m 182 #[.val (.int ln), .val (.int ya), .val (.int yb), .val (.int yc), .val (.int yd), .val (.int ye), .val (.int 4), .val (.int xa), .val (.int xb), .val (.int xc), .val (.int xd), .val (.int xe), .val (.ref ra_1083), .val (.ref ra_1124), .val (.int 2), .val (.int 2)] [(.int ((2 : Int32) >>> ((0 : Int32) &&& 31)))]) _
    refine w_iload (pc' := 184) X1142 hx hby at_182 rfl rfl ?_
    refine w_icmpYes (pc' := 189) X1142 hx hby at_184 (XT.ii_eq_t (by decide)) (by decide) ?_
    refine w_iload (pc' := 191) X1142 hx hby at_189 rfl rfl ?_
    refine w_ifNo (pc' := 194) X1142 hx hby at_191 (XT.i0_le_f (by decide)) rfl ?_
    refine w_aload (pc' := 196) X1142 hx hby at_194 rfl rfl rfl ?_
    refine w_iconst (pc' := 197) (v := 0) X1142 hx hby at_196 rfl rfl ?_
    obtain ⟨cq1144, kq1144, q1144a, q1144b, q1144c⟩ := isOf hZ K1142 fq1124_0
    obtain ⟨_, _, ⟨T1144, L1144, k1144, n1144⟩, -, X1144, ⟨Lc1144, hQ1144, l1144, y1144, z1144⟩, st1144⟩ := X1142.virtualBack hx (y := (⟨"java/lang/String", "charAt", "(I)C"⟩ : MethodName)) (z := (⟨"java/lang/String", "charAt", "(I)C"⟩ : MethodName)) hown (mvT hZ (wi hw 118 rfl)) (mvT hZ (wi hw 119 rfl)) (notFace_of_selects (args := #[]) (mvT hZ (wi hw 121 rfl))) (mvT hZ (wi hw 121 rfl)) (mvT hZ (wi hw 120 rfl)) (by decide) (backOf (W := 0) (rm_chA l Z a0 hw [] G1 ra_1124 t_1124 kt_1124 2 ([(.int (own_by xa)), (.int (own_by xb))]) (.int 0) 0 (own_by xa) G3 T1124.heap h0.size Z1138 (O2) (P5) (O4) (rG3) fq1124_0 fq1124_1 fq1124_2 f1141 (by decide) (by decide) (by rfl) Old1136) hZ (wi hw 122 rfl) (wi hw 9 rfl) (by decide) (by decide)) q1144a q1144c (g := (mkF m 197 #[.val (.int ln), .val (.int ya), .val (.int yb), .val (.int yc), .val (.int yd), .val (.int ye), .val (.int 4), .val (.int xa), .val (.int xb), .val (.int xc), .val (.int xd), .val (.int xe), .val (.ref ra_1083), .val (.ref ra_1124), .val (.int 2), .val (.int 2)] [(.int 0), (.ref ra_1124)])) rfl (by rw [hml]; rfl) (Steps.refl _) (argsL := [(.int 0)]) (rest := []) (lenOf pd__I_C rfl) rfl (by show 2 * 0 + _ ≤ _; exact Nat.le_of_eq rfl) (hb hby at_197) (fun _ _ => ⟨rfl, K1142, (by decide : 5 + 0 ≤ _), (by decide : 24 + 0 ≤ _)⟩)
    dsimp only [Pt.U, Pt.locs, Pt.cells, Pt.slots] at X1144 l1144 y1144 z1144 st1144 hQ1144
    subst l1144 y1144 z1144
    obtain ⟨rfl, NQ1144, K1144⟩ := hQ1144
    have N1145 := Fr.app N1143 NQ1144
    refine Rch.st (fun _ k => st1144.trans k) ?_
    show Rch p e below T1144 (mkF m 200 #[.val (.int ln), .val (.int ya), .val (.int yb), .val (.int yc), .val (.int yd), .val (.int ye), .val (.int 4), .val (.int xa), .val (.int xb), .val (.int xc), .val (.int xd), .val (.int xe), .val (.ref ra_1083), .val (.ref ra_1124), .val (.int 2), .val (.int 2)] [(.int (nar .char ((own_by xa) &&& (255 : Int32))))]) _
    have r1146 : (nar .char ((own_by xa) &&& (255 : Int32))) = xa := ch_xa.by8
    rw [r1146]
    show Rch p e below T1144 (mkF m 200 #[.val (.int ln), .val (.int ya), .val (.int yb), .val (.int yc), .val (.int yd), .val (.int ye), .val (.int 4), .val (.int xa), .val (.int xb), .val (.int xc), .val (.int xd), .val (.int xe), .val (.ref ra_1083), .val (.ref ra_1124), .val (.int 2), .val (.int 2)] [(.int xa)]) _
    refine w_iload (pc' := 202) X1144 hx hby at_200 rfl rfl ?_
    refine w_icmpNo (pc' := 205) X1144 hx hby at_202 (XT.ii_ne_f (rfl)) rfl ?_
    refine w_iload (pc' := 207) X1144 hx hby at_205 rfl rfl ?_
    refine w_iconst (pc' := 208) (v := 1) X1144 hx hby at_207 rfl rfl ?_
    refine w_icmpNo (pc' := 211) X1144 hx hby at_208 (XT.ii_le_f (by decide)) rfl ?_
    refine w_aload (pc' := 213) X1144 hx hby at_211 rfl rfl rfl ?_
    refine w_iconst (pc' := 214) (v := 1) X1144 hx hby at_213 rfl rfl ?_
    obtain ⟨cq1147, kq1147, q1147a, q1147b, q1147c⟩ := isOf hZ K1144 fq1124_0
    obtain ⟨_, _, ⟨T1147, L1147, k1147, n1147⟩, -, X1147, ⟨Lc1147, hQ1147, l1147, y1147, z1147⟩, st1147⟩ := X1144.virtualBack hx (y := (⟨"java/lang/String", "charAt", "(I)C"⟩ : MethodName)) (z := (⟨"java/lang/String", "charAt", "(I)C"⟩ : MethodName)) hown (mvT hZ (wi hw 118 rfl)) (mvT hZ (wi hw 119 rfl)) (notFace_of_selects (args := #[]) (mvT hZ (wi hw 121 rfl))) (mvT hZ (wi hw 121 rfl)) (mvT hZ (wi hw 120 rfl)) (by decide) (backOf (W := 0) (rm_chA l Z a0 hw [] G1 ra_1124 t_1124 kt_1124 2 ([(.int (own_by xa)), (.int (own_by xb))]) (.int 0) 1 (own_by xb) G3 T1124.heap h0.size Z1138 (O2) (P5) (O4) (rG3) fq1124_0 fq1124_1 fq1124_2 f1141 (by decide) (by decide) (by rfl) Old1136) hZ (wi hw 122 rfl) (wi hw 9 rfl) (by decide) (by decide)) q1147a q1147c (g := (mkF m 214 #[.val (.int ln), .val (.int ya), .val (.int yb), .val (.int yc), .val (.int yd), .val (.int ye), .val (.int 4), .val (.int xa), .val (.int xb), .val (.int xc), .val (.int xd), .val (.int xe), .val (.ref ra_1083), .val (.ref ra_1124), .val (.int 2), .val (.int 2)] [(.int 1), (.ref ra_1124)])) rfl (by rw [hml]; rfl) (Steps.refl _) (argsL := [(.int 1)]) (rest := []) (lenOf pd__I_C rfl) rfl (by show 2 * 0 + _ ≤ _; exact Nat.le_of_eq rfl) (hb hby at_214) (fun _ _ => ⟨rfl, K1144, (by decide : 5 + 0 ≤ _), (by decide : 24 + 0 ≤ _)⟩)
    dsimp only [Pt.U, Pt.locs, Pt.cells, Pt.slots] at X1147 l1147 y1147 z1147 st1147 hQ1147
    subst l1147 y1147 z1147
    obtain ⟨rfl, NQ1147, K1147⟩ := hQ1147
    have N1148 := Fr.app N1145 NQ1147
    refine Rch.st (fun _ k => st1147.trans k) ?_
    show Rch p e below T1147 (mkF m 217 #[.val (.int ln), .val (.int ya), .val (.int yb), .val (.int yc), .val (.int yd), .val (.int ye), .val (.int 4), .val (.int xa), .val (.int xb), .val (.int xc), .val (.int xd), .val (.int xe), .val (.ref ra_1083), .val (.ref ra_1124), .val (.int 2), .val (.int 2)] [(.int (nar .char ((own_by xb) &&& (255 : Int32))))]) _
    have r1149 : (nar .char ((own_by xb) &&& (255 : Int32))) = xb := ch_xb.by8
    rw [r1149]
    show Rch p e below T1147 (mkF m 217 #[.val (.int ln), .val (.int ya), .val (.int yb), .val (.int yc), .val (.int yd), .val (.int ye), .val (.int 4), .val (.int xa), .val (.int xb), .val (.int xc), .val (.int xd), .val (.int xe), .val (.ref ra_1083), .val (.ref ra_1124), .val (.int 2), .val (.int 2)] [(.int xb)]) _
    refine w_iload (pc' := 219) X1147 hx hby at_217 rfl rfl ?_
    refine w_icmpNo (pc' := 222) X1147 hx hby at_219 (XT.ii_ne_f (rfl)) rfl ?_
    refine w_iload (pc' := 224) X1147 hx hby at_222 rfl rfl ?_
    refine w_iconst (pc' := 225) (v := 2) X1147 hx hby at_224 rfl rfl ?_
    refine w_icmpYes (pc' := 239) X1147 hx hby at_225 (XT.ii_le_t (by decide)) (by decide) ?_
    refine w_iload (pc' := 241) X1147 hx hby at_239 rfl rfl ?_
    refine w_iconst (pc' := 242) (v := 3) X1147 hx hby at_241 rfl rfl ?_
    refine w_icmpYes (pc' := 256) X1147 hx hby at_242 (XT.ii_le_t (by decide)) (by decide) ?_
    refine w_iconst (pc' := 257) (v := 1) X1147 hx hby at_256 rfl rfl ?_
    refine w_goto (pc' := 261) X1147 hx hby at_257 (by decide) ?_
    exact Rch.retVW X1147 hx hS0 (by rw [K1147]; exact hk1139) Bd.returns rfl (Or.inl ⟨rfl, by simp, _, rfl⟩) (hb hby at_261) (by rw [K1147]; exact ⟨rfl, (own_Fr Z0 N1148), Kp1137, own_chv (s := s) (vm0 := s.vm) hZ hEL X1147.warmed CH1140⟩) (by decide) (by decide)
   ·skip
    by_cases hc1150 : xb = 47
    ·skip
     obtain ⟨_, _, ⟨T1151, L1151, k1151, n1151⟩, -, X1151, ⟨Lc1151, hQ1151, l1151, y1151, z1151⟩, st1151⟩ := Jvm.LawKit.callS X1083 hx (y := (⟨"com/example/fascicle/fascicle/Entries", "directoryOf", "(Ljava/lang/String;)Ljava/lang/String;"⟩ : MethodName)) hown (mvT hZ (wi hw 16 rfl)) (mvT hZ (wi hw 17 rfl)) (mvT hZ (wi hw 18 rfl)) (mvT hZ (wi hw 19 rfl)) (by decide) (backOf (W := 0) (rm_di_pos l Z a0 hw [] G1 G3 ra_1083 t_1083 kt_1083 4 ([own_by xa, own_by xb, own_by xc, own_by xd] : List Int32) 1 T1083.heap h0.size Z1089 (O2) (P5) (O4) (rG3) fq1083_0 fq1083_1 fq1083_2 f1092 (by decide) (by rw [show (4 : Int32).toNatClampNeg = 4 from by decide]; show (if own_by xd = 47 then Int32.ofNat 3 else (if own_by xc = 47 then Int32.ofNat 2 else (if own_by xb = 47 then Int32.ofNat 1 else (if own_by xa = 47 then Int32.ofNat 0 else (-1 : Int32))))) = _; rw [if_neg (mt (own_by47 ch_xd).1 hc1093), if_neg (mt (own_by47 ch_xc).1 hc1123), if_pos ((own_by47 ch_xb).2 hc1150)]; rfl) (by decide) (by decide) (by decide) (by decide) (by decide) (by decide) (by decide) Old1087) hZ (wi hw 19 rfl) (wi hw 18 rfl) (by decide) (by decide)) (g := (mkF m 60 #[.val (.int ln), .val (.int ya), .val (.int yb), .val (.int yc), .val (.int yd), .val (.int ye), .val (.int 4), .val (.int xa), .val (.int xb), .val (.int xc), .val (.int xd), .val (.int xe), .val (.ref ra_1083), .unset, .unset, .unset] [(.ref ra_1083)])) rfl (by rw [hml]; rfl) (argsL := [(.ref ra_1083)]) (rest := []) (lenOf pd__Ljava_lang_String__Ljava_lang_String_ rfl) rfl (by show 2 * 0 + _ ≤ _; exact Nat.le_of_eq rfl) (hb hby at_60) (fun _ _ => ⟨rfl, (rfl : T1083.heap = T1083.heap), (by decide : 3 + 2 ≤ _), (by decide : 12 + 12 ≤ _)⟩)
     dsimp only [Pt.U, Pt.locs, Pt.cells, Pt.slots] at X1151 l1151 y1151 z1151 st1151 hQ1151
     subst l1151 y1151 z1151
     obtain ⟨ra_1151, t_1151, kt_1151, rfl, NQ1151, K1151, pq1151_0, pq1151_1, fq1151_0, fq1151_1, fq1151_2, fq1151_3⟩ := hQ1151
     have N1152 := Fr.app N1084 NQ1151
     have Old1163 := Old1087.keep K1151 all0
     have Kp1164 : Keep h0 T1151.heap [] := Kp1088.trans K1151 all0
     have Z1165 := Nat.le_trans Z1089 K1151.1
     have hk1166 := Nat.le_trans hk1090 K1151.1
     have CH1167 := CHv.keep K1151 (fun x hx => by cases hx) CH1091
     refine Rch.st (fun _ k => st1151 _ k) ?_
     show Rch p e below T1151 (mkF m 63 #[.val (.int ln), .val (.int ya), .val (.int yb), .val (.int yc), .val (.int yd), .val (.int ye), .val (.int 4), .val (.int xa), .val (.int xb), .val (.int xc), .val (.int xd), .val (.int xe), .val (.ref ra_1083), .unset, .unset, .unset] [(.ref ra_1151)]) _
     have f1168 : Arv Z T1151.heap t_1151 kt_1151 .byte (1 : Int32) [(.int (own_by xa))] (.int (0 : Int32)) := by have z := fq1151_3; rw [show own_take (([own_by xa, own_by xb, own_by xc, own_by xd] : List Int32).map Value.int) (.int (0 : Int32)) (1 : Int32).toNatClampNeg = [(.int (own_by xa))] from by rw [show (1 : Int32).toNatClampNeg = 1 from by decide]; rfl] at z; exact z
     refine w_astore (pc' := 65) (l' := #[.val (.int ln), .val (.int ya), .val (.int yb), .val (.int yc), .val (.int yd), .val (.int ye), .val (.int 4), .val (.int xa), .val (.int xb), .val (.int xc), .val (.int xd), .val (.int xe), .val (.ref ra_1083), .val (.ref ra_1151), .unset, .unset]) X1151 hx hby at_63 rfl rfl rfl ?_
     refine w_iconst (pc' := 66) (v := (-1)) X1151 hx hby at_65 rfl rfl ?_
     refine w_istore (pc' := 68) (l' := #[.val (.int ln), .val (.int ya), .val (.int yb), .val (.int yc), .val (.int yd), .val (.int ye), .val (.int 4), .val (.int xa), .val (.int xb), .val (.int xc), .val (.int xd), .val (.int xe), .val (.ref ra_1083), .val (.ref ra_1151), .val (.int (-1 : Int32)), .unset]) X1151 hx hby at_66 rfl rfl ?_
     refine w_iload (pc' := 70) X1151 hx hby at_68 rfl rfl ?_
     refine w_iconst (pc' := 71) (v := 4) X1151 hx hby at_70 rfl rfl ?_
     refine w_icmpYes (pc' := 87) X1151 hx hby at_71 (XT.ii_le_t (by decide)) (by decide) ?_
     refine w_iload (pc' := 89) X1151 hx hby at_87 rfl rfl ?_
     refine w_iconst (pc' := 90) (v := 3) X1151 hx hby at_89 rfl rfl ?_
     refine w_icmpNo (pc' := 93) X1151 hx hby at_90 (XT.ii_le_f (by decide)) rfl ?_
     refine w_iload (pc' := 95) X1151 hx hby at_93 rfl rfl ?_
     refine w_bipush (pc' := 97) (v := 47) X1151 hx hby at_95 rfl rfl ?_
     refine w_icmpYes (pc' := 106) X1151 hx hby at_97 (XT.ii_ne_t (hc1093)) (by decide) ?_
     refine w_iload (pc' := 108) X1151 hx hby at_106 rfl rfl ?_
     refine w_iconst (pc' := 109) (v := 2) X1151 hx hby at_108 rfl rfl ?_
     refine w_icmpNo (pc' := 112) X1151 hx hby at_109 (XT.ii_le_f (by decide)) rfl ?_
     refine w_iload (pc' := 114) X1151 hx hby at_112 rfl rfl ?_
     refine w_bipush (pc' := 116) (v := 47) X1151 hx hby at_114 rfl rfl ?_
     refine w_icmpYes (pc' := 125) X1151 hx hby at_116 (XT.ii_ne_t (hc1123)) (by decide) ?_
     refine w_iload (pc' := 127) X1151 hx hby at_125 rfl rfl ?_
     refine w_iconst (pc' := 128) (v := 1) X1151 hx hby at_127 rfl rfl ?_
     refine w_icmpNo (pc' := 131) X1151 hx hby at_128 (XT.ii_le_f (by decide)) rfl ?_
     refine w_iload (pc' := 133) X1151 hx hby at_131 rfl rfl ?_
     refine w_bipush (pc' := 135) (v := 47) X1151 hx hby at_133 rfl rfl ?_
     refine w_icmpNo (pc' := 138) X1151 hx hby at_135 (XT.ii_ne_f (hc1150)) rfl ?_
     refine w_iconst (pc' := 139) (v := 1) X1151 hx hby at_138 rfl rfl ?_
     refine w_istore (pc' := 141) (l' := #[.val (.int ln), .val (.int ya), .val (.int yb), .val (.int yc), .val (.int yd), .val (.int ye), .val (.int 4), .val (.int xa), .val (.int xb), .val (.int xc), .val (.int xd), .val (.int xe), .val (.ref ra_1083), .val (.ref ra_1151), .val (.int 1), .unset]) X1151 hx hby at_139 rfl rfl ?_
     refine w_goto (pc' := 159) X1151 hx hby at_141 (by decide) ?_
     refine w_iload (pc' := 161) X1151 hx hby at_159 rfl rfl ?_
     refine w_ifYes (pc' := 168) X1151 hx hby at_161 (XT.i0_ge_t (by decide)) (by decide) ?_
     refine w_iload (pc' := 170) X1151 hx hby at_168 rfl rfl ?_
     refine w_istore (pc' := 172) (l' := #[.val (.int ln), .val (.int ya), .val (.int yb), .val (.int yc), .val (.int yd), .val (.int ye), .val (.int 4), .val (.int xa), .val (.int xb), .val (.int xc), .val (.int xd), .val (.int xe), .val (.ref ra_1083), .val (.ref ra_1151), .val (.int 1), .val (.int 1)]) X1151 hx hby at_170 rfl rfl ?_
     refine w_aload (pc' := 174) X1151 hx hby at_172 rfl rfl rfl ?_
     refine w_nullNo (pc' := 177) X1151 hx hby at_174 rfl (fun q => nomatch q) rfl ?_
     refine w_aload (pc' := 179) X1151 hx hby at_177 rfl rfl rfl ?_
     obtain ⟨cq1169, kq1169, q1169a, q1169b, q1169c⟩ := isOf hZ (rfl : T1151.heap = T1151.heap) fq1151_0
     obtain ⟨_, _, ⟨T1169, L1169, k1169, n1169⟩, -, X1169, ⟨Lc1169, hQ1169, l1169, y1169, z1169⟩, st1169⟩ := X1151.virtualBack hx (y := (⟨"java/lang/String", "length", "()I"⟩ : MethodName)) (z := (⟨"java/lang/String", "length", "()I"⟩ : MethodName)) hown (mvT hZ (wi hw 60 rfl)) (mvT hZ (wi hw 26 rfl)) (notFace_of_selects (args := #[]) (mvT hZ (wi hw 28 rfl))) (mvT hZ (wi hw 28 rfl)) (mvT hZ (wi hw 27 rfl)) (by decide) (backOf (W := 0) (rm_length l Z a0 hw [] G1 ra_1151 0 t_1151 kt_1151 1 ([(.int (own_by xa))]) (.int 0) T1151.heap h0.size Z1165 (O2) (P5) fq1151_1 (Or.inl rfl) fq1151_2 f1168 fq1151_0 Old1163) hZ (wi hw 29 rfl) (wi hw 9 rfl) (by decide) (by decide)) q1169a q1169c (g := (mkF m 179 #[.val (.int ln), .val (.int ya), .val (.int yb), .val (.int yc), .val (.int yd), .val (.int ye), .val (.int 4), .val (.int xa), .val (.int xb), .val (.int xc), .val (.int xd), .val (.int xe), .val (.ref ra_1083), .val (.ref ra_1151), .val (.int 1), .val (.int 1)] [(.ref ra_1151)])) rfl (by rw [hml]; rfl) (Steps.refl _) (argsL := []) (rest := []) (lenOf pd___I rfl) rfl (by show 2 * 0 + _ ≤ _; exact Nat.le_of_eq rfl) (hb hby at_179) (fun _ _ => ⟨rfl, (rfl : T1151.heap = T1151.heap), (by decide : 5 + 0 ≤ _), (by decide : 24 + 0 ≤ _)⟩)
     dsimp only [Pt.U, Pt.locs, Pt.cells, Pt.slots] at X1169 l1169 y1169 z1169 st1169 hQ1169
     subst l1169 y1169 z1169
     obtain ⟨rfl, NQ1169, K1169⟩ := hQ1169
     have N1170 := Fr.app N1152 NQ1169
     refine Rch.st (fun _ k => st1169.trans k) ?_
     show Rch p e below T1169 (mkF m 182 #[.val (.int ln), .val (.int ya), .val (.int yb), .val (.int yc), .val (.int yd), .val (.int ye), .val (.int 4), .val (.int xa), .val (.int xb), .val (.int xc), .val (.int xd), .val (.int xe), .val (.ref ra_1083), .val (.ref ra_1151), .val (.int 1), .val (.int 1)] [(.int ((1 : Int32) >>> ((0 : Int32) &&& 31)))]) _
     refine w_iload (pc' := 184) X1169 hx hby at_182 rfl rfl ?_
     refine w_icmpYes (pc' := 189) X1169 hx hby at_184 (XT.ii_eq_t (by decide)) (by decide) ?_
     refine w_iload (pc' := 191) X1169 hx hby at_189 rfl rfl ?_
     refine w_ifNo (pc' := 194) X1169 hx hby at_191 (XT.i0_le_f (by decide)) rfl ?_
     refine w_aload (pc' := 196) X1169 hx hby at_194 rfl rfl rfl ?_
     refine w_iconst (pc' := 197) (v := 0) X1169 hx hby at_196 rfl rfl ?_
     obtain ⟨cq1171, kq1171, q1171a, q1171b, q1171c⟩ := isOf hZ K1169 fq1151_0
     obtain ⟨_, _, ⟨T1171, L1171, k1171, n1171⟩, -, X1171, ⟨Lc1171, hQ1171, l1171, y1171, z1171⟩, st1171⟩ := X1169.virtualBack hx (y := (⟨"java/lang/String", "charAt", "(I)C"⟩ : MethodName)) (z := (⟨"java/lang/String", "charAt", "(I)C"⟩ : MethodName)) hown (mvT hZ (wi hw 118 rfl)) (mvT hZ (wi hw 119 rfl)) (notFace_of_selects (args := #[]) (mvT hZ (wi hw 121 rfl))) (mvT hZ (wi hw 121 rfl)) (mvT hZ (wi hw 120 rfl)) (by decide) (backOf (W := 0) (rm_chA l Z a0 hw [] G1 ra_1151 t_1151 kt_1151 1 ([(.int (own_by xa))]) (.int 0) 0 (own_by xa) G3 T1151.heap h0.size Z1165 (O2) (P5) (O4) (rG3) fq1151_0 fq1151_1 fq1151_2 f1168 (by decide) (by decide) (by rfl) Old1163) hZ (wi hw 122 rfl) (wi hw 9 rfl) (by decide) (by decide)) q1171a q1171c (g := (mkF m 197 #[.val (.int ln), .val (.int ya), .val (.int yb), .val (.int yc), .val (.int yd), .val (.int ye), .val (.int 4), .val (.int xa), .val (.int xb), .val (.int xc), .val (.int xd), .val (.int xe), .val (.ref ra_1083), .val (.ref ra_1151), .val (.int 1), .val (.int 1)] [(.int 0), (.ref ra_1151)])) rfl (by rw [hml]; rfl) (Steps.refl _) (argsL := [(.int 0)]) (rest := []) (lenOf pd__I_C rfl) rfl (by show 2 * 0 + _ ≤ _; exact Nat.le_of_eq rfl) (hb hby at_197) (fun _ _ => ⟨rfl, K1169, (by decide : 5 + 0 ≤ _), (by decide : 24 + 0 ≤ _)⟩)
     dsimp only [Pt.U, Pt.locs, Pt.cells, Pt.slots] at X1171 l1171 y1171 z1171 st1171 hQ1171
     subst l1171 y1171 z1171
     obtain ⟨rfl, NQ1171, K1171⟩ := hQ1171
     have N1172 := Fr.app N1170 NQ1171
     refine Rch.st (fun _ k => st1171.trans k) ?_
     show Rch p e below T1171 (mkF m 200 #[.val (.int ln), .val (.int ya), .val (.int yb), .val (.int yc), .val (.int yd), .val (.int ye), .val (.int 4), .val (.int xa), .val (.int xb), .val (.int xc), .val (.int xd), .val (.int xe), .val (.ref ra_1083), .val (.ref ra_1151), .val (.int 1), .val (.int 1)] [(.int (nar .char ((own_by xa) &&& (255 : Int32))))]) _
     have r1173 : (nar .char ((own_by xa) &&& (255 : Int32))) = xa := ch_xa.by8
     rw [r1173]
     show Rch p e below T1171 (mkF m 200 #[.val (.int ln), .val (.int ya), .val (.int yb), .val (.int yc), .val (.int yd), .val (.int ye), .val (.int 4), .val (.int xa), .val (.int xb), .val (.int xc), .val (.int xd), .val (.int xe), .val (.ref ra_1083), .val (.ref ra_1151), .val (.int 1), .val (.int 1)] [(.int xa)]) _
     refine w_iload (pc' := 202) X1171 hx hby at_200 rfl rfl ?_
     refine w_icmpNo (pc' := 205) X1171 hx hby at_202 (XT.ii_ne_f (rfl)) rfl ?_
     refine w_iload (pc' := 207) X1171 hx hby at_205 rfl rfl ?_
     refine w_iconst (pc' := 208) (v := 1) X1171 hx hby at_207 rfl rfl ?_
     refine w_icmpYes (pc' := 222) X1171 hx hby at_208 (XT.ii_le_t (by decide)) (by decide) ?_
     refine w_iload (pc' := 224) X1171 hx hby at_222 rfl rfl ?_
     refine w_iconst (pc' := 225) (v := 2) X1171 hx hby at_224 rfl rfl ?_
     refine w_icmpYes (pc' := 239) X1171 hx hby at_225 (XT.ii_le_t (by decide)) (by decide) ?_
     refine w_iload (pc' := 241) X1171 hx hby at_239 rfl rfl ?_
     refine w_iconst (pc' := 242) (v := 3) X1171 hx hby at_241 rfl rfl ?_
     refine w_icmpYes (pc' := 256) X1171 hx hby at_242 (XT.ii_le_t (by decide)) (by decide) ?_
     refine w_iconst (pc' := 257) (v := 1) X1171 hx hby at_256 rfl rfl ?_
     refine w_goto (pc' := 261) X1171 hx hby at_257 (by decide) ?_
     exact Rch.retVW X1171 hx hS0 (by rw [K1171]; exact hk1166) Bd.returns rfl (Or.inl ⟨rfl, by simp, _, rfl⟩) (hb hby at_261) (by rw [K1171]; exact ⟨rfl, (own_Fr Z0 N1172), Kp1164, own_chv (s := s) (vm0 := s.vm) hZ hEL X1171.warmed CH1167⟩) (by decide) (by decide)
    ·skip
     by_cases hc1174 : xa = 47
     ·skip
      obtain ⟨_, _, ⟨T1175, L1175, k1175, n1175⟩, -, X1175, hSx1175, hgx1175, ⟨Lc1175, hQ1175, l1175, y1175, z1175⟩, st1175⟩ := callSS X1083 hx (y := (⟨"com/example/fascicle/fascicle/Entries", "directoryOf", "(Ljava/lang/String;)Ljava/lang/String;"⟩ : MethodName)) hown (mvT hZ (wi hw 16 rfl)) (mvT hZ (wi hw 17 rfl)) (mvT hZ (wi hw 18 rfl)) (mvT hZ (wi hw 19 rfl)) (by decide) (backOfV (PV := fun vm => CHv Z consts_1 vm T1083.heap) (W := 0) (rm_di_zero l Z a0 hw [] G1 G3 ra_1083 t_1083 kt_1083 4 ([own_by xa, own_by xb, own_by xc, own_by xd] : List Int32) T1083.heap h0.size Z1089 (O2) (P5) (O4) (rG3) fq1083_0 fq1083_1 fq1083_2 f1092 (by decide) (by rw [show (4 : Int32).toNatClampNeg = 4 from by decide]; show (if own_by xd = 47 then Int32.ofNat 3 else (if own_by xc = 47 then Int32.ofNat 2 else (if own_by xb = 47 then Int32.ofNat 1 else (if own_by xa = 47 then Int32.ofNat 0 else (-1 : Int32))))) = _; rw [if_neg (mt (own_by47 ch_xd).1 hc1093), if_neg (mt (own_by47 ch_xc).1 hc1123), if_neg (mt (own_by47 ch_xb).1 hc1150), if_pos ((own_by47 ch_xa).2 hc1174)]; rfl) (by decide) (by decide) Old1087) hZ (fun vm hW => own_chv (s := s) (vm0 := s.vm) hZ hEL hW CH1091) (wi hw 19 rfl) (wi hw 18 rfl) (by decide) (by decide)) (g := (mkF m 60 #[.val (.int ln), .val (.int ya), .val (.int yb), .val (.int yc), .val (.int yd), .val (.int ye), .val (.int 4), .val (.int xa), .val (.int xb), .val (.int xc), .val (.int xd), .val (.int xe), .val (.ref ra_1083), .unset, .unset, .unset] [(.ref ra_1083)])) rfl (by rw [hml]; rfl) (argsL := [(.ref ra_1083)]) (rest := []) (lenOf pd__Ljava_lang_String__Ljava_lang_String_ rfl) rfl (by show 2 * 0 + _ ≤ _; exact Nat.le_of_eq rfl) (hb hby at_60) (fun _ _ => ⟨rfl, (rfl : T1083.heap = T1083.heap), (by decide : 3 + 2 ≤ _), (by decide : 12 + 4 ≤ _)⟩)
      dsimp only [Pt.U, Pt.locs, Pt.cells, Pt.slots] at X1175 l1175 y1175 z1175 st1175 hQ1175 hSx1175 hgx1175
      subst l1175 y1175 z1175
      have hS1175 := foldS hS0 (by rw [(rfl : T1083.heap = T1083.heap)]; exact hk1090) hSx1175 hgx1175
      have hk1175 : T1175.heap.size ≤ T1175.heap.size := Nat.le_refl _
      have hZ1175 : Z.Warmed39 (s.setVm T1175.vm).vm := State.Warmed39.trans (t := s.setVm s.vm) hZ hSx1175.1
      have hown1175 : (s.setVm T1175.vm).vm.findClass "com/example/fascicle/fascicle/EntriesDirectoryOfPinLaw" = some m.cls := by rw [show (s.setVm T1175.vm).vm = T1175.vm from rfl, hSx1175.1.alike.findClass]; exact hown
      have X1175w : Stand p l e room_1 (s.setVm T1175.vm) m _ below meth c T1175 _ _ _ := X1175
      obtain ⟨ra_1175, t_1175, kt_1175, rfl, NQ1175, K1175, fq1175_0, fq1175_1, fq1175_2, fq1175_3, IQ1175⟩ := hQ1175
      have N1176 := Fr.app N1084 NQ1175
      have Old1181 := Old1087.keep K1175 all0
      have Kp1182 : Keep h0 T1175.heap [] := Kp1088.trans K1175 all0
      have Z1183 := Nat.le_trans Z1089 K1175.1
      refine Rch.st (fun _ k => st1175.trans k) ?_
      show Rch p e below T1175 (mkF m 63 #[.val (.int ln), .val (.int ya), .val (.int yb), .val (.int yc), .val (.int yd), .val (.int ye), .val (.int 4), .val (.int xa), .val (.int xb), .val (.int xc), .val (.int xd), .val (.int xe), .val (.ref ra_1083), .unset, .unset, .unset] [(.ref ra_1175)]) _
      refine w_astore (pc' := 65) (l' := #[.val (.int ln), .val (.int ya), .val (.int yb), .val (.int yc), .val (.int yd), .val (.int ye), .val (.int 4), .val (.int xa), .val (.int xb), .val (.int xc), .val (.int xd), .val (.int xe), .val (.ref ra_1083), .val (.ref ra_1175), .unset, .unset]) X1175w hx hby at_63 rfl rfl rfl ?_
      refine w_iconst (pc' := 66) (v := (-1)) X1175w hx hby at_65 rfl rfl ?_
      refine w_istore (pc' := 68) (l' := #[.val (.int ln), .val (.int ya), .val (.int yb), .val (.int yc), .val (.int yd), .val (.int ye), .val (.int 4), .val (.int xa), .val (.int xb), .val (.int xc), .val (.int xd), .val (.int xe), .val (.ref ra_1083), .val (.ref ra_1175), .val (.int (-1 : Int32)), .unset]) X1175w hx hby at_66 rfl rfl ?_
      refine w_iload (pc' := 70) X1175w hx hby at_68 rfl rfl ?_
      refine w_iconst (pc' := 71) (v := 4) X1175w hx hby at_70 rfl rfl ?_
      refine w_icmpYes (pc' := 87) X1175w hx hby at_71 (XT.ii_le_t (by decide)) (by decide) ?_
      refine w_iload (pc' := 89) X1175w hx hby at_87 rfl rfl ?_
      refine w_iconst (pc' := 90) (v := 3) X1175w hx hby at_89 rfl rfl ?_
      refine w_icmpNo (pc' := 93) X1175w hx hby at_90 (XT.ii_le_f (by decide)) rfl ?_
      refine w_iload (pc' := 95) X1175w hx hby at_93 rfl rfl ?_
      refine w_bipush (pc' := 97) (v := 47) X1175w hx hby at_95 rfl rfl ?_
      refine w_icmpYes (pc' := 106) X1175w hx hby at_97 (XT.ii_ne_t (hc1093)) (by decide) ?_
      refine w_iload (pc' := 108) X1175w hx hby at_106 rfl rfl ?_
      refine w_iconst (pc' := 109) (v := 2) X1175w hx hby at_108 rfl rfl ?_
      refine w_icmpNo (pc' := 112) X1175w hx hby at_109 (XT.ii_le_f (by decide)) rfl ?_
      refine w_iload (pc' := 114) X1175w hx hby at_112 rfl rfl ?_
      refine w_bipush (pc' := 116) (v := 47) X1175w hx hby at_114 rfl rfl ?_
      refine w_icmpYes (pc' := 125) X1175w hx hby at_116 (XT.ii_ne_t (hc1123)) (by decide) ?_
      refine w_iload (pc' := 127) X1175w hx hby at_125 rfl rfl ?_
      refine w_iconst (pc' := 128) (v := 1) X1175w hx hby at_127 rfl rfl ?_
      refine w_icmpNo (pc' := 131) X1175w hx hby at_128 (XT.ii_le_f (by decide)) rfl ?_
      refine w_iload (pc' := 133) X1175w hx hby at_131 rfl rfl ?_
      refine w_bipush (pc' := 135) (v := 47) X1175w hx hby at_133 rfl rfl ?_
      refine w_icmpYes (pc' := 144) X1175w hx hby at_135 (XT.ii_ne_t (hc1150)) (by decide) ?_
      refine w_iload (pc' := 146) X1175w hx hby at_144 rfl rfl ?_
      refine w_ifNo (pc' := 149) X1175w hx hby at_146 (XT.i0_le_f (by decide)) rfl ?_
      refine w_iload (pc' := 151) X1175w hx hby at_149 rfl rfl ?_
      refine w_bipush (pc' := 153) (v := 47) X1175w hx hby at_151 rfl rfl ?_
      refine w_icmpNo (pc' := 156) X1175w hx hby at_153 (XT.ii_ne_f (hc1174)) rfl ?_
      refine w_iconst (pc' := 157) (v := 0) X1175w hx hby at_156 rfl rfl ?_
      refine w_istore (pc' := 159) (l' := #[.val (.int ln), .val (.int ya), .val (.int yb), .val (.int yc), .val (.int yd), .val (.int ye), .val (.int 4), .val (.int xa), .val (.int xb), .val (.int xc), .val (.int xd), .val (.int xe), .val (.ref ra_1083), .val (.ref ra_1175), .val (.int 0), .unset]) X1175w hx hby at_157 rfl rfl ?_
      refine w_iload (pc' := 161) X1175w hx hby at_159 rfl rfl ?_
      refine w_ifYes (pc' := 168) X1175w hx hby at_161 (XT.i0_ge_t (by decide)) (by decide) ?_
      refine w_iload (pc' := 170) X1175w hx hby at_168 rfl rfl ?_
      refine w_istore (pc' := 172) (l' := #[.val (.int ln), .val (.int ya), .val (.int yb), .val (.int yc), .val (.int yd), .val (.int ye), .val (.int 4), .val (.int xa), .val (.int xb), .val (.int xc), .val (.int xd), .val (.int xe), .val (.ref ra_1083), .val (.ref ra_1175), .val (.int 0), .val (.int 0)]) X1175w hx hby at_170 rfl rfl ?_
      refine w_aload (pc' := 174) X1175w hx hby at_172 rfl rfl rfl ?_
      refine w_nullNo (pc' := 177) X1175w hx hby at_174 rfl (fun q => nomatch q) rfl ?_
      refine w_aload (pc' := 179) X1175w hx hby at_177 rfl rfl rfl ?_
      obtain ⟨cq1184, kq1184, q1184a, q1184b, q1184c⟩ := isOf hZ1175 (rfl : T1175.heap = T1175.heap) fq1175_0
      obtain ⟨_, _, ⟨T1184, L1184, k1184, n1184⟩, -, X1184, ⟨Lc1184, hQ1184, l1184, y1184, z1184⟩, st1184⟩ := X1175w.virtualBack hx (y := (⟨"java/lang/String", "length", "()I"⟩ : MethodName)) (z := (⟨"java/lang/String", "length", "()I"⟩ : MethodName)) hown1175 (mvT hZ1175 (wi hw 60 rfl)) (mvT hZ1175 (wi hw 26 rfl)) (notFace_of_selects (args := #[]) (mvT hZ1175 (wi hw 28 rfl))) (mvT hZ1175 (wi hw 28 rfl)) (mvT hZ1175 (wi hw 27 rfl)) (by decide) (backOf (W := 0) (rm_length l Z a0 hw [] G1 ra_1175 0 t_1175 kt_1175 0 ([]) (.int 0) T1175.heap h0.size Z1183 (O2) (P5) fq1175_1 (Or.inl rfl) fq1175_2 fq1175_3 fq1175_0 Old1181) hZ1175 (wi hw 29 rfl) (wi hw 9 rfl) (by decide) (by decide)) q1184a q1184c (g := (mkF m 179 #[.val (.int ln), .val (.int ya), .val (.int yb), .val (.int yc), .val (.int yd), .val (.int ye), .val (.int 4), .val (.int xa), .val (.int xb), .val (.int xc), .val (.int xd), .val (.int xe), .val (.ref ra_1083), .val (.ref ra_1175), .val (.int 0), .val (.int 0)] [(.ref ra_1175)])) rfl (by rw [hml]; rfl) (Steps.refl _) (argsL := []) (rest := []) (lenOf pd___I rfl) rfl (by show 2 * 0 + _ ≤ _; exact Nat.le_of_eq rfl) (hb hby at_179) (fun _ _ => ⟨rfl, (rfl : T1175.heap = T1175.heap), (by decide : 5 + 0 ≤ _), (by decide : 16 + 0 ≤ _)⟩)
      dsimp only [Pt.U, Pt.locs, Pt.cells, Pt.slots] at X1184 l1184 y1184 z1184 st1184 hQ1184
      subst l1184 y1184 z1184
      obtain ⟨rfl, NQ1184, K1184⟩ := hQ1184
      have N1185 := Fr.app N1176 NQ1184
      refine Rch.st (fun _ k => st1184.trans k) ?_
      show Rch p e below T1184 (mkF m 182 #[.val (.int ln), .val (.int ya), .val (.int yb), .val (.int yc), .val (.int yd), .val (.int ye), .val (.int 4), .val (.int xa), .val (.int xb), .val (.int xc), .val (.int xd), .val (.int xe), .val (.ref ra_1083), .val (.ref ra_1175), .val (.int 0), .val (.int 0)] [(.int ((0 : Int32) >>> ((0 : Int32) &&& 31)))]) _
      refine w_iload (pc' := 184) X1184 hx hby at_182 rfl rfl ?_
      refine w_icmpYes (pc' := 189) X1184 hx hby at_184 (XT.ii_eq_t (by decide)) (by decide) ?_
      refine w_iload (pc' := 191) X1184 hx hby at_189 rfl rfl ?_
      refine w_ifYes (pc' := 205) X1184 hx hby at_191 (XT.i0_le_t (by decide)) (by decide) ?_
      refine w_iload (pc' := 207) X1184 hx hby at_205 rfl rfl ?_
      refine w_iconst (pc' := 208) (v := 1) X1184 hx hby at_207 rfl rfl ?_
      refine w_icmpYes (pc' := 222) X1184 hx hby at_208 (XT.ii_le_t (by decide)) (by decide) ?_
      refine w_iload (pc' := 224) X1184 hx hby at_222 rfl rfl ?_
      refine w_iconst (pc' := 225) (v := 2) X1184 hx hby at_224 rfl rfl ?_
      refine w_icmpYes (pc' := 239) X1184 hx hby at_225 (XT.ii_le_t (by decide)) (by decide) ?_
      refine w_iload (pc' := 241) X1184 hx hby at_239 rfl rfl ?_
      refine w_iconst (pc' := 242) (v := 3) X1184 hx hby at_241 rfl rfl ?_
      refine w_icmpYes (pc' := 256) X1184 hx hby at_242 (XT.ii_le_t (by decide)) (by decide) ?_
      refine w_iconst (pc' := 257) (v := 1) X1184 hx hby at_256 rfl rfl ?_
      refine w_goto (pc' := 261) X1184 hx hby at_257 (by decide) ?_
      exact Rch.retVW X1184 hx hS1175 (by rw [K1184]; exact hk1175) Bd.returns rfl (Or.inl ⟨rfl, by simp, _, rfl⟩) (hb hby at_261) (by rw [K1184]; exact ⟨rfl, (own_Fr Z0 N1185), Kp1182, own_chv (s := s) (vm0 := T1175.vm) hZ1175 hEL X1184.warmed IQ1175⟩) (by decide) (by decide)
     ·skip
      obtain ⟨_, _, ⟨T1186, L1186, k1186, n1186⟩, -, X1186, hSx1186, hgx1186, ⟨Lc1186, hQ1186, l1186, y1186, z1186⟩, st1186⟩ := callSS X1083 hx (y := (⟨"com/example/fascicle/fascicle/Entries", "directoryOf", "(Ljava/lang/String;)Ljava/lang/String;"⟩ : MethodName)) hown (mvT hZ (wi hw 16 rfl)) (mvT hZ (wi hw 17 rfl)) (mvT hZ (wi hw 18 rfl)) (mvT hZ (wi hw 19 rfl)) (by decide) (backOfV (PV := fun vm => CHv Z consts_1 vm T1083.heap) (W := 0) (rm_di_neg l Z a0 hw [] G1 G3 ra_1083 t_1083 kt_1083 4 ([own_by xa, own_by xb, own_by xc, own_by xd] : List Int32) T1083.heap h0.size Z1089 (O2) (P5) (O4) (rG3) fq1083_0 fq1083_1 fq1083_2 f1092 (by decide) (by rw [show (4 : Int32).toNatClampNeg = 4 from by decide]; show (if own_by xd = 47 then Int32.ofNat 3 else (if own_by xc = 47 then Int32.ofNat 2 else (if own_by xb = 47 then Int32.ofNat 1 else (if own_by xa = 47 then Int32.ofNat 0 else (-1 : Int32))))) = _; rw [if_neg (mt (own_by47 ch_xd).1 hc1093), if_neg (mt (own_by47 ch_xc).1 hc1123), if_neg (mt (own_by47 ch_xb).1 hc1150), if_neg (mt (own_by47 ch_xa).1 hc1174)]) Old1087) hZ (fun vm hW => own_chv (s := s) (vm0 := s.vm) hZ hEL hW CH1091) (wi hw 19 rfl) (wi hw 18 rfl) (by decide) (by decide)) (g := (mkF m 60 #[.val (.int ln), .val (.int ya), .val (.int yb), .val (.int yc), .val (.int yd), .val (.int ye), .val (.int 4), .val (.int xa), .val (.int xb), .val (.int xc), .val (.int xd), .val (.int xe), .val (.ref ra_1083), .unset, .unset, .unset] [(.ref ra_1083)])) rfl (by rw [hml]; rfl) (argsL := [(.ref ra_1083)]) (rest := []) (lenOf pd__Ljava_lang_String__Ljava_lang_String_ rfl) rfl (by show 2 * 0 + _ ≤ _; exact Nat.le_of_eq rfl) (hb hby at_60) (fun _ _ => ⟨rfl, (rfl : T1083.heap = T1083.heap), (by decide : 3 + 2 ≤ _), (by decide : 12 + 4 ≤ _)⟩)
      dsimp only [Pt.U, Pt.locs, Pt.cells, Pt.slots] at X1186 l1186 y1186 z1186 st1186 hQ1186 hSx1186 hgx1186
      subst l1186 y1186 z1186
      have hS1186 := foldS hS0 (by rw [(rfl : T1083.heap = T1083.heap)]; exact hk1090) hSx1186 hgx1186
      have hk1186 : T1186.heap.size ≤ T1186.heap.size := Nat.le_refl _
      have hZ1186 : Z.Warmed39 (s.setVm T1186.vm).vm := State.Warmed39.trans (t := s.setVm s.vm) hZ hSx1186.1
      have hown1186 : (s.setVm T1186.vm).vm.findClass "com/example/fascicle/fascicle/EntriesDirectoryOfPinLaw" = some m.cls := by rw [show (s.setVm T1186.vm).vm = T1186.vm from rfl, hSx1186.1.alike.findClass]; exact hown
      have X1186w : Stand p l e room_1 (s.setVm T1186.vm) m _ below meth c T1186 _ _ _ := X1186
      obtain ⟨ra_1186, t_1186, kt_1186, rfl, NQ1186, K1186, fq1186_0, fq1186_1, fq1186_2, fq1186_3, IQ1186⟩ := hQ1186
      have N1187 := Fr.app N1084 NQ1186
      have Old1192 := Old1087.keep K1186 all0
      have Kp1193 : Keep h0 T1186.heap [] := Kp1088.trans K1186 all0
      have Z1194 := Nat.le_trans Z1089 K1186.1
      refine Rch.st (fun _ k => st1186.trans k) ?_
      show Rch p e below T1186 (mkF m 63 #[.val (.int ln), .val (.int ya), .val (.int yb), .val (.int yc), .val (.int yd), .val (.int ye), .val (.int 4), .val (.int xa), .val (.int xb), .val (.int xc), .val (.int xd), .val (.int xe), .val (.ref ra_1083), .unset, .unset, .unset] [(.ref ra_1186)]) _
      refine w_astore (pc' := 65) (l' := #[.val (.int ln), .val (.int ya), .val (.int yb), .val (.int yc), .val (.int yd), .val (.int ye), .val (.int 4), .val (.int xa), .val (.int xb), .val (.int xc), .val (.int xd), .val (.int xe), .val (.ref ra_1083), .val (.ref ra_1186), .unset, .unset]) X1186w hx hby at_63 rfl rfl rfl ?_
      refine w_iconst (pc' := 66) (v := (-1)) X1186w hx hby at_65 rfl rfl ?_
      refine w_istore (pc' := 68) (l' := #[.val (.int ln), .val (.int ya), .val (.int yb), .val (.int yc), .val (.int yd), .val (.int ye), .val (.int 4), .val (.int xa), .val (.int xb), .val (.int xc), .val (.int xd), .val (.int xe), .val (.ref ra_1083), .val (.ref ra_1186), .val (.int (-1 : Int32)), .unset]) X1186w hx hby at_66 rfl rfl ?_
      refine w_iload (pc' := 70) X1186w hx hby at_68 rfl rfl ?_
      refine w_iconst (pc' := 71) (v := 4) X1186w hx hby at_70 rfl rfl ?_
      refine w_icmpYes (pc' := 87) X1186w hx hby at_71 (XT.ii_le_t (by decide)) (by decide) ?_
      refine w_iload (pc' := 89) X1186w hx hby at_87 rfl rfl ?_
      refine w_iconst (pc' := 90) (v := 3) X1186w hx hby at_89 rfl rfl ?_
      refine w_icmpNo (pc' := 93) X1186w hx hby at_90 (XT.ii_le_f (by decide)) rfl ?_
      refine w_iload (pc' := 95) X1186w hx hby at_93 rfl rfl ?_
      refine w_bipush (pc' := 97) (v := 47) X1186w hx hby at_95 rfl rfl ?_
      refine w_icmpYes (pc' := 106) X1186w hx hby at_97 (XT.ii_ne_t (hc1093)) (by decide) ?_
      refine w_iload (pc' := 108) X1186w hx hby at_106 rfl rfl ?_
      refine w_iconst (pc' := 109) (v := 2) X1186w hx hby at_108 rfl rfl ?_
      refine w_icmpNo (pc' := 112) X1186w hx hby at_109 (XT.ii_le_f (by decide)) rfl ?_
      refine w_iload (pc' := 114) X1186w hx hby at_112 rfl rfl ?_
      refine w_bipush (pc' := 116) (v := 47) X1186w hx hby at_114 rfl rfl ?_
      refine w_icmpYes (pc' := 125) X1186w hx hby at_116 (XT.ii_ne_t (hc1123)) (by decide) ?_
      refine w_iload (pc' := 127) X1186w hx hby at_125 rfl rfl ?_
      refine w_iconst (pc' := 128) (v := 1) X1186w hx hby at_127 rfl rfl ?_
      refine w_icmpNo (pc' := 131) X1186w hx hby at_128 (XT.ii_le_f (by decide)) rfl ?_
      refine w_iload (pc' := 133) X1186w hx hby at_131 rfl rfl ?_
      refine w_bipush (pc' := 135) (v := 47) X1186w hx hby at_133 rfl rfl ?_
      refine w_icmpYes (pc' := 144) X1186w hx hby at_135 (XT.ii_ne_t (hc1150)) (by decide) ?_
      refine w_iload (pc' := 146) X1186w hx hby at_144 rfl rfl ?_
      refine w_ifNo (pc' := 149) X1186w hx hby at_146 (XT.i0_le_f (by decide)) rfl ?_
      refine w_iload (pc' := 151) X1186w hx hby at_149 rfl rfl ?_
      refine w_bipush (pc' := 153) (v := 47) X1186w hx hby at_151 rfl rfl ?_
      refine w_icmpYes (pc' := 159) X1186w hx hby at_153 (XT.ii_ne_t (hc1174)) (by decide) ?_
      refine w_iload (pc' := 161) X1186w hx hby at_159 rfl rfl ?_
      refine w_ifNo (pc' := 164) X1186w hx hby at_161 (XT.i0_ge_f (by decide)) rfl ?_
      refine w_iconst (pc' := 165) (v := 0) X1186w hx hby at_164 rfl rfl ?_
      refine w_goto (pc' := 170) X1186w hx hby at_165 (by decide) ?_
      refine w_istore (pc' := 172) (l' := #[.val (.int ln), .val (.int ya), .val (.int yb), .val (.int yc), .val (.int yd), .val (.int ye), .val (.int 4), .val (.int xa), .val (.int xb), .val (.int xc), .val (.int xd), .val (.int xe), .val (.ref ra_1083), .val (.ref ra_1186), .val (.int (-1 : Int32)), .val (.int 0)]) X1186w hx hby at_170 rfl rfl ?_
      refine w_aload (pc' := 174) X1186w hx hby at_172 rfl rfl rfl ?_
      refine w_nullNo (pc' := 177) X1186w hx hby at_174 rfl (fun q => nomatch q) rfl ?_
      refine w_aload (pc' := 179) X1186w hx hby at_177 rfl rfl rfl ?_
      obtain ⟨cq1195, kq1195, q1195a, q1195b, q1195c⟩ := isOf hZ1186 (rfl : T1186.heap = T1186.heap) fq1186_0
      obtain ⟨_, _, ⟨T1195, L1195, k1195, n1195⟩, -, X1195, ⟨Lc1195, hQ1195, l1195, y1195, z1195⟩, st1195⟩ := X1186w.virtualBack hx (y := (⟨"java/lang/String", "length", "()I"⟩ : MethodName)) (z := (⟨"java/lang/String", "length", "()I"⟩ : MethodName)) hown1186 (mvT hZ1186 (wi hw 60 rfl)) (mvT hZ1186 (wi hw 26 rfl)) (notFace_of_selects (args := #[]) (mvT hZ1186 (wi hw 28 rfl))) (mvT hZ1186 (wi hw 28 rfl)) (mvT hZ1186 (wi hw 27 rfl)) (by decide) (backOf (W := 0) (rm_length l Z a0 hw [] G1 ra_1186 0 t_1186 kt_1186 0 ([]) (.int 0) T1186.heap h0.size Z1194 (O2) (P5) fq1186_1 (Or.inl rfl) fq1186_2 fq1186_3 fq1186_0 Old1192) hZ1186 (wi hw 29 rfl) (wi hw 9 rfl) (by decide) (by decide)) q1195a q1195c (g := (mkF m 179 #[.val (.int ln), .val (.int ya), .val (.int yb), .val (.int yc), .val (.int yd), .val (.int ye), .val (.int 4), .val (.int xa), .val (.int xb), .val (.int xc), .val (.int xd), .val (.int xe), .val (.ref ra_1083), .val (.ref ra_1186), .val (.int (-1 : Int32)), .val (.int 0)] [(.ref ra_1186)])) rfl (by rw [hml]; rfl) (Steps.refl _) (argsL := []) (rest := []) (lenOf pd___I rfl) rfl (by show 2 * 0 + _ ≤ _; exact Nat.le_of_eq rfl) (hb hby at_179) (fun _ _ => ⟨rfl, (rfl : T1186.heap = T1186.heap), (by decide : 5 + 0 ≤ _), (by decide : 16 + 0 ≤ _)⟩)
      dsimp only [Pt.U, Pt.locs, Pt.cells, Pt.slots] at X1195 l1195 y1195 z1195 st1195 hQ1195
      subst l1195 y1195 z1195
      obtain ⟨rfl, NQ1195, K1195⟩ := hQ1195
      have N1196 := Fr.app N1187 NQ1195
      refine Rch.st (fun _ k => st1195.trans k) ?_
      show Rch p e below T1195 (mkF m 182 #[.val (.int ln), .val (.int ya), .val (.int yb), .val (.int yc), .val (.int yd), .val (.int ye), .val (.int 4), .val (.int xa), .val (.int xb), .val (.int xc), .val (.int xd), .val (.int xe), .val (.ref ra_1083), .val (.ref ra_1186), .val (.int (-1 : Int32)), .val (.int 0)] [(.int ((0 : Int32) >>> ((0 : Int32) &&& 31)))]) _
      refine w_iload (pc' := 184) X1195 hx hby at_182 rfl rfl ?_
      refine w_icmpYes (pc' := 189) X1195 hx hby at_184 (XT.ii_eq_t (by decide)) (by decide) ?_
      refine w_iload (pc' := 191) X1195 hx hby at_189 rfl rfl ?_
      refine w_ifYes (pc' := 205) X1195 hx hby at_191 (XT.i0_le_t (by decide)) (by decide) ?_
      refine w_iload (pc' := 207) X1195 hx hby at_205 rfl rfl ?_
      refine w_iconst (pc' := 208) (v := 1) X1195 hx hby at_207 rfl rfl ?_
      refine w_icmpYes (pc' := 222) X1195 hx hby at_208 (XT.ii_le_t (by decide)) (by decide) ?_
      refine w_iload (pc' := 224) X1195 hx hby at_222 rfl rfl ?_
      refine w_iconst (pc' := 225) (v := 2) X1195 hx hby at_224 rfl rfl ?_
      refine w_icmpYes (pc' := 239) X1195 hx hby at_225 (XT.ii_le_t (by decide)) (by decide) ?_
      refine w_iload (pc' := 241) X1195 hx hby at_239 rfl rfl ?_
      refine w_iconst (pc' := 242) (v := 3) X1195 hx hby at_241 rfl rfl ?_
      refine w_icmpYes (pc' := 256) X1195 hx hby at_242 (XT.ii_le_t (by decide)) (by decide) ?_
      refine w_iconst (pc' := 257) (v := 1) X1195 hx hby at_256 rfl rfl ?_
      refine w_goto (pc' := 261) X1195 hx hby at_257 (by decide) ?_
      exact Rch.retVW X1195 hx hS1186 (by rw [K1195]; exact hk1186) Bd.returns rfl (Or.inl ⟨rfl, by simp, _, rfl⟩) (hb hby at_261) (by rw [K1195]; exact ⟨rfl, (own_Fr Z0 N1196), Kp1193, own_chv (s := s) (vm0 := T1186.vm) hZ1186 hEL X1195.warmed IQ1186⟩) (by decide) (by decide)
 ·skip
  show Rch p e below T890 (mkF m 53 #[.val (.int ln), .val (.int ya), .val (.int yb), .val (.int yc), .val (.int yd), .val (.int ye), .val (.int 5), .val (.int xa), .val (.int xb), .val (.int xc), .val (.int xd), .val (.int xe), .unset, .unset, .unset, .unset] [(.int xe), (.int xd), (.int xc), (.int xb), (.int xa), (.int 5)]) _
  obtain ⟨_, _, ⟨T1197, L1197, k1197, n1197⟩, -, X1197, ⟨Lc1197, hQ1197, l1197, y1197, z1197⟩, st1197⟩ := Jvm.LawKit.callS X890 hx (y := (⟨"com/example/fascicle/fascicle/EntriesDirectoryOfPinLaw", "mk", "(ICCCCC)Ljava/lang/String;"⟩ : MethodName)) hown (mvT hZ (wi hw 5 rfl)) (mvT hZ (wi hw 6 rfl)) (mvT hZ (wi hw 3 rfl)) (mvT hZ (wi hw 7 rfl)) (by decide) (backOf (W := 0) (rm_mk_5 l Z a0 hw [] G1 xa xb xc xd xe h0 h0.size Z0f (O2) (P5) (ch_xa) (ch_xb) (ch_xc) (ch_xd) (ch_xe) OldF) hZ (wi hw 7 rfl) (wi hw 3 rfl) (by decide) (by decide)) (g := (mkF m 53 #[.val (.int ln), .val (.int ya), .val (.int yb), .val (.int yc), .val (.int yd), .val (.int ye), .val (.int 5), .val (.int xa), .val (.int xb), .val (.int xc), .val (.int xd), .val (.int xe), .unset, .unset, .unset, .unset] [(.int xe), (.int xd), (.int xc), (.int xb), (.int xa), (.int 5)])) rfl (by rw [hml]; rfl) (argsL := [(.int 5), (.int xa), (.int xb), (.int xc), (.int xd), (.int xe)]) (rest := []) (lenOf pd__ICCCCC_Ljava_lang_String_ rfl) rfl (by show 2 * 0 + _ ≤ _; exact Nat.le_of_eq rfl) (hb hby at_53) (fun _ _ => ⟨rfl, K890, (by decide : 0 + 3 ≤ _), (by decide : 0 + 14 ≤ _)⟩)
  dsimp only [Pt.U, Pt.locs, Pt.cells, Pt.slots] at X1197 l1197 y1197 z1197 st1197 hQ1197
  subst l1197 y1197 z1197
  obtain ⟨ra_1197, t_1197, kt_1197, rfl, NQ1197, K1197, pq1197_0, pq1197_1, fq1197_0, fq1197_1, fq1197_2, fq1197_3⟩ := hQ1197
  have N1198 := Fr.app N891 NQ1197
  have Old1201 := OldF.keep K1197 all0
  have Kp1202 : Keep h0 T1197.heap [] := K00.trans K1197 all0
  have Z1203 := Nat.le_trans Z0f K1197.1
  have hk1204 := Nat.le_trans hk0 K1197.1
  have CH1205 := CHv.keep K1197 (fun x hx => by cases hx) hI
  refine Rch.st (fun _ k => st1197 _ k) ?_
  show Rch p e below T1197 (mkF m 56 #[.val (.int ln), .val (.int ya), .val (.int yb), .val (.int yc), .val (.int yd), .val (.int ye), .val (.int 5), .val (.int xa), .val (.int xb), .val (.int xc), .val (.int xd), .val (.int xe), .unset, .unset, .unset, .unset] [(.ref ra_1197)]) _
  refine w_astore (pc' := 58) (l' := #[.val (.int ln), .val (.int ya), .val (.int yb), .val (.int yc), .val (.int yd), .val (.int ye), .val (.int 5), .val (.int xa), .val (.int xb), .val (.int xc), .val (.int xd), .val (.int xe), .val (.ref ra_1197), .unset, .unset, .unset]) X1197 hx hby at_56 rfl rfl rfl ?_
  refine w_aload (pc' := 60) X1197 hx hby at_58 rfl rfl rfl ?_
  have f1206 : Arv Z T1197.heap t_1197 kt_1197 .byte (5 : Int32) (([own_by xa, own_by xb, own_by xc, own_by xd, own_by xe] : List Int32).map Value.int) (.int (0 : Int32)) := fq1197_3
  by_cases hc1207 : xe = 47
  ·skip
   obtain ⟨_, _, ⟨T1208, L1208, k1208, n1208⟩, -, X1208, ⟨Lc1208, hQ1208, l1208, y1208, z1208⟩, st1208⟩ := Jvm.LawKit.callS X1197 hx (y := (⟨"com/example/fascicle/fascicle/Entries", "directoryOf", "(Ljava/lang/String;)Ljava/lang/String;"⟩ : MethodName)) hown (mvT hZ (wi hw 16 rfl)) (mvT hZ (wi hw 17 rfl)) (mvT hZ (wi hw 18 rfl)) (mvT hZ (wi hw 19 rfl)) (by decide) (backOf (W := 0) (rm_di_pos l Z a0 hw [] G1 G3 ra_1197 t_1197 kt_1197 5 ([own_by xa, own_by xb, own_by xc, own_by xd, own_by xe] : List Int32) 4 T1197.heap h0.size Z1203 (O2) (P5) (O4) (rG3) fq1197_0 fq1197_1 fq1197_2 f1206 (by decide) (by rw [show (5 : Int32).toNatClampNeg = 5 from by decide]; show (if own_by xe = 47 then Int32.ofNat 4 else (if own_by xd = 47 then Int32.ofNat 3 else (if own_by xc = 47 then Int32.ofNat 2 else (if own_by xb = 47 then Int32.ofNat 1 else (if own_by xa = 47 then Int32.ofNat 0 else (-1 : Int32)))))) = _; rw [if_pos ((own_by47 ch_xe).2 hc1207)]; rfl) (by decide) (by decide) (by decide) (by decide) (by decide) (by decide) (by decide) Old1201) hZ (wi hw 19 rfl) (wi hw 18 rfl) (by decide) (by decide)) (g := (mkF m 60 #[.val (.int ln), .val (.int ya), .val (.int yb), .val (.int yc), .val (.int yd), .val (.int ye), .val (.int 5), .val (.int xa), .val (.int xb), .val (.int xc), .val (.int xd), .val (.int xe), .val (.ref ra_1197), .unset, .unset, .unset] [(.ref ra_1197)])) rfl (by rw [hml]; rfl) (argsL := [(.ref ra_1197)]) (rest := []) (lenOf pd__Ljava_lang_String__Ljava_lang_String_ rfl) rfl (by show 2 * 0 + _ ≤ _; exact Nat.le_of_eq rfl) (hb hby at_60) (fun _ _ => ⟨rfl, (rfl : T1197.heap = T1197.heap), (by decide : 3 + 2 ≤ _), (by decide : 14 + 12 ≤ _)⟩)
   dsimp only [Pt.U, Pt.locs, Pt.cells, Pt.slots] at X1208 l1208 y1208 z1208 st1208 hQ1208
   subst l1208 y1208 z1208
   obtain ⟨ra_1208, t_1208, kt_1208, rfl, NQ1208, K1208, pq1208_0, pq1208_1, fq1208_0, fq1208_1, fq1208_2, fq1208_3⟩ := hQ1208
   have N1209 := Fr.app N1198 NQ1208
   have Old1220 := Old1201.keep K1208 all0
   have Kp1221 : Keep h0 T1208.heap [] := Kp1202.trans K1208 all0
   have Z1222 := Nat.le_trans Z1203 K1208.1
   have hk1223 := Nat.le_trans hk1204 K1208.1
   have CH1224 := CHv.keep K1208 (fun x hx => by cases hx) CH1205
   refine Rch.st (fun _ k => st1208 _ k) ?_
   show Rch p e below T1208 (mkF m 63 #[.val (.int ln), .val (.int ya), .val (.int yb), .val (.int yc), .val (.int yd), .val (.int ye), .val (.int 5), .val (.int xa), .val (.int xb), .val (.int xc), .val (.int xd), .val (.int xe), .val (.ref ra_1197), .unset, .unset, .unset] [(.ref ra_1208)]) _
   have f1225 : Arv Z T1208.heap t_1208 kt_1208 .byte (4 : Int32) [(.int (own_by xa)), (.int (own_by xb)), (.int (own_by xc)), (.int (own_by xd))] (.int (0 : Int32)) := by have z := fq1208_3; rw [show own_take (([own_by xa, own_by xb, own_by xc, own_by xd, own_by xe] : List Int32).map Value.int) (.int (0 : Int32)) (4 : Int32).toNatClampNeg = [(.int (own_by xa)), (.int (own_by xb)), (.int (own_by xc)), (.int (own_by xd))] from by rw [show (4 : Int32).toNatClampNeg = 4 from by decide]; rfl] at z; exact z
   refine w_astore (pc' := 65) (l' := #[.val (.int ln), .val (.int ya), .val (.int yb), .val (.int yc), .val (.int yd), .val (.int ye), .val (.int 5), .val (.int xa), .val (.int xb), .val (.int xc), .val (.int xd), .val (.int xe), .val (.ref ra_1197), .val (.ref ra_1208), .unset, .unset]) X1208 hx hby at_63 rfl rfl rfl ?_
   refine w_iconst (pc' := 66) (v := (-1)) X1208 hx hby at_65 rfl rfl ?_
   refine w_istore (pc' := 68) (l' := #[.val (.int ln), .val (.int ya), .val (.int yb), .val (.int yc), .val (.int yd), .val (.int ye), .val (.int 5), .val (.int xa), .val (.int xb), .val (.int xc), .val (.int xd), .val (.int xe), .val (.ref ra_1197), .val (.ref ra_1208), .val (.int (-1 : Int32)), .unset]) X1208 hx hby at_66 rfl rfl ?_
   refine w_iload (pc' := 70) X1208 hx hby at_68 rfl rfl ?_
   refine w_iconst (pc' := 71) (v := 4) X1208 hx hby at_70 rfl rfl ?_
   refine w_icmpNo (pc' := 74) X1208 hx hby at_71 (XT.ii_le_f (by decide)) rfl ?_
   refine w_iload (pc' := 76) X1208 hx hby at_74 rfl rfl ?_
   refine w_bipush (pc' := 78) (v := 47) X1208 hx hby at_76 rfl rfl ?_
   refine w_icmpNo (pc' := 81) X1208 hx hby at_78 (XT.ii_ne_f (hc1207)) rfl ?_
   refine w_iconst (pc' := 82) (v := 4) X1208 hx hby at_81 rfl rfl ?_
   refine w_istore (pc' := 84) (l' := #[.val (.int ln), .val (.int ya), .val (.int yb), .val (.int yc), .val (.int yd), .val (.int ye), .val (.int 5), .val (.int xa), .val (.int xb), .val (.int xc), .val (.int xd), .val (.int xe), .val (.ref ra_1197), .val (.ref ra_1208), .val (.int 4), .unset]) X1208 hx hby at_82 rfl rfl ?_
   refine w_goto (pc' := 159) X1208 hx hby at_84 (by decide) ?_
   refine w_iload (pc' := 161) X1208 hx hby at_159 rfl rfl ?_
   refine w_ifYes (pc' := 168) X1208 hx hby at_161 (XT.i0_ge_t (by decide)) (by decide) ?_
   refine w_iload (pc' := 170) X1208 hx hby at_168 rfl rfl ?_
   refine w_istore (pc' := 172) (l' := #[.val (.int ln), .val (.int ya), .val (.int yb), .val (.int yc), .val (.int yd), .val (.int ye), .val (.int 5), .val (.int xa), .val (.int xb), .val (.int xc), .val (.int xd), .val (.int xe), .val (.ref ra_1197), .val (.ref ra_1208), .val (.int 4), .val (.int 4)]) X1208 hx hby at_170 rfl rfl ?_
   refine w_aload (pc' := 174) X1208 hx hby at_172 rfl rfl rfl ?_
   refine w_nullNo (pc' := 177) X1208 hx hby at_174 rfl (fun q => nomatch q) rfl ?_
   refine w_aload (pc' := 179) X1208 hx hby at_177 rfl rfl rfl ?_
   obtain ⟨cq1226, kq1226, q1226a, q1226b, q1226c⟩ := isOf hZ (rfl : T1208.heap = T1208.heap) fq1208_0
   obtain ⟨_, _, ⟨T1226, L1226, k1226, n1226⟩, -, X1226, ⟨Lc1226, hQ1226, l1226, y1226, z1226⟩, st1226⟩ := X1208.virtualBack hx (y := (⟨"java/lang/String", "length", "()I"⟩ : MethodName)) (z := (⟨"java/lang/String", "length", "()I"⟩ : MethodName)) hown (mvT hZ (wi hw 60 rfl)) (mvT hZ (wi hw 26 rfl)) (notFace_of_selects (args := #[]) (mvT hZ (wi hw 28 rfl))) (mvT hZ (wi hw 28 rfl)) (mvT hZ (wi hw 27 rfl)) (by decide) (backOf (W := 0) (rm_length l Z a0 hw [] G1 ra_1208 0 t_1208 kt_1208 4 ([(.int (own_by xa)), (.int (own_by xb)), (.int (own_by xc)), (.int (own_by xd))]) (.int 0) T1208.heap h0.size Z1222 (O2) (P5) fq1208_1 (Or.inl rfl) fq1208_2 f1225 fq1208_0 Old1220) hZ (wi hw 29 rfl) (wi hw 9 rfl) (by decide) (by decide)) q1226a q1226c (g := (mkF m 179 #[.val (.int ln), .val (.int ya), .val (.int yb), .val (.int yc), .val (.int yd), .val (.int ye), .val (.int 5), .val (.int xa), .val (.int xb), .val (.int xc), .val (.int xd), .val (.int xe), .val (.ref ra_1197), .val (.ref ra_1208), .val (.int 4), .val (.int 4)] [(.ref ra_1208)])) rfl (by rw [hml]; rfl) (Steps.refl _) (argsL := []) (rest := []) (lenOf pd___I rfl) rfl (by show 2 * 0 + _ ≤ _; exact Nat.le_of_eq rfl) (hb hby at_179) (fun _ _ => ⟨rfl, (rfl : T1208.heap = T1208.heap), (by decide : 5 + 0 ≤ _), (by decide : 26 + 0 ≤ _)⟩)
   dsimp only [Pt.U, Pt.locs, Pt.cells, Pt.slots] at X1226 l1226 y1226 z1226 st1226 hQ1226
   subst l1226 y1226 z1226
   obtain ⟨rfl, NQ1226, K1226⟩ := hQ1226
   have N1227 := Fr.app N1209 NQ1226
   refine Rch.st (fun _ k => st1226.trans k) ?_
   show Rch p e below T1226 (mkF m 182 #[.val (.int ln), .val (.int ya), .val (.int yb), .val (.int yc), .val (.int yd), .val (.int ye), .val (.int 5), .val (.int xa), .val (.int xb), .val (.int xc), .val (.int xd), .val (.int xe), .val (.ref ra_1197), .val (.ref ra_1208), .val (.int 4), .val (.int 4)] [(.int ((4 : Int32) >>> ((0 : Int32) &&& 31)))]) _
   refine w_iload (pc' := 184) X1226 hx hby at_182 rfl rfl ?_
   refine w_icmpYes (pc' := 189) X1226 hx hby at_184 (XT.ii_eq_t (by decide)) (by decide) ?_
   refine w_iload (pc' := 191) X1226 hx hby at_189 rfl rfl ?_
   refine w_ifNo (pc' := 194) X1226 hx hby at_191 (XT.i0_le_f (by decide)) rfl ?_
   refine w_aload (pc' := 196) X1226 hx hby at_194 rfl rfl rfl ?_
   refine w_iconst (pc' := 197) (v := 0) X1226 hx hby at_196 rfl rfl ?_
   obtain ⟨cq1228, kq1228, q1228a, q1228b, q1228c⟩ := isOf hZ K1226 fq1208_0
   obtain ⟨_, _, ⟨T1228, L1228, k1228, n1228⟩, -, X1228, ⟨Lc1228, hQ1228, l1228, y1228, z1228⟩, st1228⟩ := X1226.virtualBack hx (y := (⟨"java/lang/String", "charAt", "(I)C"⟩ : MethodName)) (z := (⟨"java/lang/String", "charAt", "(I)C"⟩ : MethodName)) hown (mvT hZ (wi hw 118 rfl)) (mvT hZ (wi hw 119 rfl)) (notFace_of_selects (args := #[]) (mvT hZ (wi hw 121 rfl))) (mvT hZ (wi hw 121 rfl)) (mvT hZ (wi hw 120 rfl)) (by decide) (backOf (W := 0) (rm_chA l Z a0 hw [] G1 ra_1208 t_1208 kt_1208 4 ([(.int (own_by xa)), (.int (own_by xb)), (.int (own_by xc)), (.int (own_by xd))]) (.int 0) 0 (own_by xa) G3 T1208.heap h0.size Z1222 (O2) (P5) (O4) (rG3) fq1208_0 fq1208_1 fq1208_2 f1225 (by decide) (by decide) (by rfl) Old1220) hZ (wi hw 122 rfl) (wi hw 9 rfl) (by decide) (by decide)) q1228a q1228c (g := (mkF m 197 #[.val (.int ln), .val (.int ya), .val (.int yb), .val (.int yc), .val (.int yd), .val (.int ye), .val (.int 5), .val (.int xa), .val (.int xb), .val (.int xc), .val (.int xd), .val (.int xe), .val (.ref ra_1197), .val (.ref ra_1208), .val (.int 4), .val (.int 4)] [(.int 0), (.ref ra_1208)])) rfl (by rw [hml]; rfl) (Steps.refl _) (argsL := [(.int 0)]) (rest := []) (lenOf pd__I_C rfl) rfl (by show 2 * 0 + _ ≤ _; exact Nat.le_of_eq rfl) (hb hby at_197) (fun _ _ => ⟨rfl, K1226, (by decide : 5 + 0 ≤ _), (by decide : 26 + 0 ≤ _)⟩)
   dsimp only [Pt.U, Pt.locs, Pt.cells, Pt.slots] at X1228 l1228 y1228 z1228 st1228 hQ1228
   subst l1228 y1228 z1228
   obtain ⟨rfl, NQ1228, K1228⟩ := hQ1228
   have N1229 := Fr.app N1227 NQ1228
   refine Rch.st (fun _ k => st1228.trans k) ?_
   show Rch p e below T1228 (mkF m 200 #[.val (.int ln), .val (.int ya), .val (.int yb), .val (.int yc), .val (.int yd), .val (.int ye), .val (.int 5), .val (.int xa), .val (.int xb), .val (.int xc), .val (.int xd), .val (.int xe), .val (.ref ra_1197), .val (.ref ra_1208), .val (.int 4), .val (.int 4)] [(.int (nar .char ((own_by xa) &&& (255 : Int32))))]) _
   have r1230 : (nar .char ((own_by xa) &&& (255 : Int32))) = xa := ch_xa.by8
   rw [r1230]
   show Rch p e below T1228 (mkF m 200 #[.val (.int ln), .val (.int ya), .val (.int yb), .val (.int yc), .val (.int yd), .val (.int ye), .val (.int 5), .val (.int xa), .val (.int xb), .val (.int xc), .val (.int xd), .val (.int xe), .val (.ref ra_1197), .val (.ref ra_1208), .val (.int 4), .val (.int 4)] [(.int xa)]) _
   refine w_iload (pc' := 202) X1228 hx hby at_200 rfl rfl ?_
   refine w_icmpNo (pc' := 205) X1228 hx hby at_202 (XT.ii_ne_f (rfl)) rfl ?_
   refine w_iload (pc' := 207) X1228 hx hby at_205 rfl rfl ?_
   refine w_iconst (pc' := 208) (v := 1) X1228 hx hby at_207 rfl rfl ?_
   refine w_icmpNo (pc' := 211) X1228 hx hby at_208 (XT.ii_le_f (by decide)) rfl ?_
   refine w_aload (pc' := 213) X1228 hx hby at_211 rfl rfl rfl ?_
   refine w_iconst (pc' := 214) (v := 1) X1228 hx hby at_213 rfl rfl ?_
   obtain ⟨cq1231, kq1231, q1231a, q1231b, q1231c⟩ := isOf hZ K1228 fq1208_0
   obtain ⟨_, _, ⟨T1231, L1231, k1231, n1231⟩, -, X1231, ⟨Lc1231, hQ1231, l1231, y1231, z1231⟩, st1231⟩ := X1228.virtualBack hx (y := (⟨"java/lang/String", "charAt", "(I)C"⟩ : MethodName)) (z := (⟨"java/lang/String", "charAt", "(I)C"⟩ : MethodName)) hown (mvT hZ (wi hw 118 rfl)) (mvT hZ (wi hw 119 rfl)) (notFace_of_selects (args := #[]) (mvT hZ (wi hw 121 rfl))) (mvT hZ (wi hw 121 rfl)) (mvT hZ (wi hw 120 rfl)) (by decide) (backOf (W := 0) (rm_chA l Z a0 hw [] G1 ra_1208 t_1208 kt_1208 4 ([(.int (own_by xa)), (.int (own_by xb)), (.int (own_by xc)), (.int (own_by xd))]) (.int 0) 1 (own_by xb) G3 T1208.heap h0.size Z1222 (O2) (P5) (O4) (rG3) fq1208_0 fq1208_1 fq1208_2 f1225 (by decide) (by decide) (by rfl) Old1220) hZ (wi hw 122 rfl) (wi hw 9 rfl) (by decide) (by decide)) q1231a q1231c (g := (mkF m 214 #[.val (.int ln), .val (.int ya), .val (.int yb), .val (.int yc), .val (.int yd), .val (.int ye), .val (.int 5), .val (.int xa), .val (.int xb), .val (.int xc), .val (.int xd), .val (.int xe), .val (.ref ra_1197), .val (.ref ra_1208), .val (.int 4), .val (.int 4)] [(.int 1), (.ref ra_1208)])) rfl (by rw [hml]; rfl) (Steps.refl _) (argsL := [(.int 1)]) (rest := []) (lenOf pd__I_C rfl) rfl (by show 2 * 0 + _ ≤ _; exact Nat.le_of_eq rfl) (hb hby at_214) (fun _ _ => ⟨rfl, K1228, (by decide : 5 + 0 ≤ _), (by decide : 26 + 0 ≤ _)⟩)
   dsimp only [Pt.U, Pt.locs, Pt.cells, Pt.slots] at X1231 l1231 y1231 z1231 st1231 hQ1231
   subst l1231 y1231 z1231
   obtain ⟨rfl, NQ1231, K1231⟩ := hQ1231
   have N1232 := Fr.app N1229 NQ1231
   refine Rch.st (fun _ k => st1231.trans k) ?_
   show Rch p e below T1231 (mkF m 217 #[.val (.int ln), .val (.int ya), .val (.int yb), .val (.int yc), .val (.int yd), .val (.int ye), .val (.int 5), .val (.int xa), .val (.int xb), .val (.int xc), .val (.int xd), .val (.int xe), .val (.ref ra_1197), .val (.ref ra_1208), .val (.int 4), .val (.int 4)] [(.int (nar .char ((own_by xb) &&& (255 : Int32))))]) _
   have r1233 : (nar .char ((own_by xb) &&& (255 : Int32))) = xb := ch_xb.by8
   rw [r1233]
   show Rch p e below T1231 (mkF m 217 #[.val (.int ln), .val (.int ya), .val (.int yb), .val (.int yc), .val (.int yd), .val (.int ye), .val (.int 5), .val (.int xa), .val (.int xb), .val (.int xc), .val (.int xd), .val (.int xe), .val (.ref ra_1197), .val (.ref ra_1208), .val (.int 4), .val (.int 4)] [(.int xb)]) _
   refine w_iload (pc' := 219) X1231 hx hby at_217 rfl rfl ?_
   refine w_icmpNo (pc' := 222) X1231 hx hby at_219 (XT.ii_ne_f (rfl)) rfl ?_
   refine w_iload (pc' := 224) X1231 hx hby at_222 rfl rfl ?_
   refine w_iconst (pc' := 225) (v := 2) X1231 hx hby at_224 rfl rfl ?_
   refine w_icmpNo (pc' := 228) X1231 hx hby at_225 (XT.ii_le_f (by decide)) rfl ?_
   refine w_aload (pc' := 230) X1231 hx hby at_228 rfl rfl rfl ?_
   refine w_iconst (pc' := 231) (v := 2) X1231 hx hby at_230 rfl rfl ?_
   obtain ⟨cq1234, kq1234, q1234a, q1234b, q1234c⟩ := isOf hZ K1231 fq1208_0
   obtain ⟨_, _, ⟨T1234, L1234, k1234, n1234⟩, -, X1234, ⟨Lc1234, hQ1234, l1234, y1234, z1234⟩, st1234⟩ := X1231.virtualBack hx (y := (⟨"java/lang/String", "charAt", "(I)C"⟩ : MethodName)) (z := (⟨"java/lang/String", "charAt", "(I)C"⟩ : MethodName)) hown (mvT hZ (wi hw 118 rfl)) (mvT hZ (wi hw 119 rfl)) (notFace_of_selects (args := #[]) (mvT hZ (wi hw 121 rfl))) (mvT hZ (wi hw 121 rfl)) (mvT hZ (wi hw 120 rfl)) (by decide) (backOf (W := 0) (rm_chA l Z a0 hw [] G1 ra_1208 t_1208 kt_1208 4 ([(.int (own_by xa)), (.int (own_by xb)), (.int (own_by xc)), (.int (own_by xd))]) (.int 0) 2 (own_by xc) G3 T1208.heap h0.size Z1222 (O2) (P5) (O4) (rG3) fq1208_0 fq1208_1 fq1208_2 f1225 (by decide) (by decide) (by rfl) Old1220) hZ (wi hw 122 rfl) (wi hw 9 rfl) (by decide) (by decide)) q1234a q1234c (g := (mkF m 231 #[.val (.int ln), .val (.int ya), .val (.int yb), .val (.int yc), .val (.int yd), .val (.int ye), .val (.int 5), .val (.int xa), .val (.int xb), .val (.int xc), .val (.int xd), .val (.int xe), .val (.ref ra_1197), .val (.ref ra_1208), .val (.int 4), .val (.int 4)] [(.int 2), (.ref ra_1208)])) rfl (by rw [hml]; rfl) (Steps.refl _) (argsL := [(.int 2)]) (rest := []) (lenOf pd__I_C rfl) rfl (by show 2 * 0 + _ ≤ _; exact Nat.le_of_eq rfl) (hb hby at_231) (fun _ _ => ⟨rfl, K1231, (by decide : 5 + 0 ≤ _), (by decide : 26 + 0 ≤ _)⟩)
   dsimp only [Pt.U, Pt.locs, Pt.cells, Pt.slots] at X1234 l1234 y1234 z1234 st1234 hQ1234
   subst l1234 y1234 z1234
   obtain ⟨rfl, NQ1234, K1234⟩ := hQ1234
   have N1235 := Fr.app N1232 NQ1234
   refine Rch.st (fun _ k => st1234.trans k) ?_
   show Rch p e below T1234 (mkF m 234 #[.val (.int ln), .val (.int ya), .val (.int yb), .val (.int yc), .val (.int yd), .val (.int ye), .val (.int 5), .val (.int xa), .val (.int xb), .val (.int xc), .val (.int xd), .val (.int xe), .val (.ref ra_1197), .val (.ref ra_1208), .val (.int 4), .val (.int 4)] [(.int (nar .char ((own_by xc) &&& (255 : Int32))))]) _
   have r1236 : (nar .char ((own_by xc) &&& (255 : Int32))) = xc := ch_xc.by8
   rw [r1236]
   show Rch p e below T1234 (mkF m 234 #[.val (.int ln), .val (.int ya), .val (.int yb), .val (.int yc), .val (.int yd), .val (.int ye), .val (.int 5), .val (.int xa), .val (.int xb), .val (.int xc), .val (.int xd), .val (.int xe), .val (.ref ra_1197), .val (.ref ra_1208), .val (.int 4), .val (.int 4)] [(.int xc)]) _
   refine w_iload (pc' := 236) X1234 hx hby at_234 rfl rfl ?_
   refine w_icmpNo (pc' := 239) X1234 hx hby at_236 (XT.ii_ne_f (rfl)) rfl ?_
   refine w_iload (pc' := 241) X1234 hx hby at_239 rfl rfl ?_
   refine w_iconst (pc' := 242) (v := 3) X1234 hx hby at_241 rfl rfl ?_
   refine w_icmpNo (pc' := 245) X1234 hx hby at_242 (XT.ii_le_f (by decide)) rfl ?_
   refine w_aload (pc' := 247) X1234 hx hby at_245 rfl rfl rfl ?_
   refine w_iconst (pc' := 248) (v := 3) X1234 hx hby at_247 rfl rfl ?_
   obtain ⟨cq1237, kq1237, q1237a, q1237b, q1237c⟩ := isOf hZ K1234 fq1208_0
   obtain ⟨_, _, ⟨T1237, L1237, k1237, n1237⟩, -, X1237, ⟨Lc1237, hQ1237, l1237, y1237, z1237⟩, st1237⟩ := X1234.virtualBack hx (y := (⟨"java/lang/String", "charAt", "(I)C"⟩ : MethodName)) (z := (⟨"java/lang/String", "charAt", "(I)C"⟩ : MethodName)) hown (mvT hZ (wi hw 118 rfl)) (mvT hZ (wi hw 119 rfl)) (notFace_of_selects (args := #[]) (mvT hZ (wi hw 121 rfl))) (mvT hZ (wi hw 121 rfl)) (mvT hZ (wi hw 120 rfl)) (by decide) (backOf (W := 0) (rm_chA l Z a0 hw [] G1 ra_1208 t_1208 kt_1208 4 ([(.int (own_by xa)), (.int (own_by xb)), (.int (own_by xc)), (.int (own_by xd))]) (.int 0) 3 (own_by xd) G3 T1208.heap h0.size Z1222 (O2) (P5) (O4) (rG3) fq1208_0 fq1208_1 fq1208_2 f1225 (by decide) (by decide) (by rfl) Old1220) hZ (wi hw 122 rfl) (wi hw 9 rfl) (by decide) (by decide)) q1237a q1237c (g := (mkF m 248 #[.val (.int ln), .val (.int ya), .val (.int yb), .val (.int yc), .val (.int yd), .val (.int ye), .val (.int 5), .val (.int xa), .val (.int xb), .val (.int xc), .val (.int xd), .val (.int xe), .val (.ref ra_1197), .val (.ref ra_1208), .val (.int 4), .val (.int 4)] [(.int 3), (.ref ra_1208)])) rfl (by rw [hml]; rfl) (Steps.refl _) (argsL := [(.int 3)]) (rest := []) (lenOf pd__I_C rfl) rfl (by show 2 * 0 + _ ≤ _; exact Nat.le_of_eq rfl) (hb hby at_248) (fun _ _ => ⟨rfl, K1234, (by decide : 5 + 0 ≤ _), (by decide : 26 + 0 ≤ _)⟩)
   dsimp only [Pt.U, Pt.locs, Pt.cells, Pt.slots] at X1237 l1237 y1237 z1237 st1237 hQ1237
   subst l1237 y1237 z1237
   obtain ⟨rfl, NQ1237, K1237⟩ := hQ1237
   have N1238 := Fr.app N1235 NQ1237
   refine Rch.st (fun _ k => st1237.trans k) ?_
   show Rch p e below T1237 (mkF m 251 #[.val (.int ln), .val (.int ya), .val (.int yb), .val (.int yc), .val (.int yd), .val (.int ye), .val (.int 5), .val (.int xa), .val (.int xb), .val (.int xc), .val (.int xd), .val (.int xe), .val (.ref ra_1197), .val (.ref ra_1208), .val (.int 4), .val (.int 4)] [(.int (nar .char ((own_by xd) &&& (255 : Int32))))]) _
   have r1239 : (nar .char ((own_by xd) &&& (255 : Int32))) = xd := ch_xd.by8
   rw [r1239]
   show Rch p e below T1237 (mkF m 251 #[.val (.int ln), .val (.int ya), .val (.int yb), .val (.int yc), .val (.int yd), .val (.int ye), .val (.int 5), .val (.int xa), .val (.int xb), .val (.int xc), .val (.int xd), .val (.int xe), .val (.ref ra_1197), .val (.ref ra_1208), .val (.int 4), .val (.int 4)] [(.int xd)]) _
   refine w_iload (pc' := 253) X1237 hx hby at_251 rfl rfl ?_
   refine w_icmpNo (pc' := 256) X1237 hx hby at_253 (XT.ii_ne_f (rfl)) rfl ?_
   refine w_iconst (pc' := 257) (v := 1) X1237 hx hby at_256 rfl rfl ?_
   refine w_goto (pc' := 261) X1237 hx hby at_257 (by decide) ?_
   exact Rch.retVW X1237 hx hS0 (by rw [K1237]; exact hk1223) Bd.returns rfl (Or.inl ⟨rfl, by simp, _, rfl⟩) (hb hby at_261) (by rw [K1237]; exact ⟨rfl, (own_Fr Z0 N1238), Kp1221, own_chv (s := s) (vm0 := s.vm) hZ hEL X1237.warmed CH1224⟩) (by decide) (by decide)
  ·skip
   by_cases hc1240 : xd = 47
   ·skip
    obtain ⟨_, _, ⟨T1241, L1241, k1241, n1241⟩, -, X1241, ⟨Lc1241, hQ1241, l1241, y1241, z1241⟩, st1241⟩ := Jvm.LawKit.callS X1197 hx (y := (⟨"com/example/fascicle/fascicle/Entries", "directoryOf", "(Ljava/lang/String;)Ljava/lang/String;"⟩ : MethodName)) hown (mvT hZ (wi hw 16 rfl)) (mvT hZ (wi hw 17 rfl)) (mvT hZ (wi hw 18 rfl)) (mvT hZ (wi hw 19 rfl)) (by decide) (backOf (W := 0) (rm_di_pos l Z a0 hw [] G1 G3 ra_1197 t_1197 kt_1197 5 ([own_by xa, own_by xb, own_by xc, own_by xd, own_by xe] : List Int32) 3 T1197.heap h0.size Z1203 (O2) (P5) (O4) (rG3) fq1197_0 fq1197_1 fq1197_2 f1206 (by decide) (by rw [show (5 : Int32).toNatClampNeg = 5 from by decide]; show (if own_by xe = 47 then Int32.ofNat 4 else (if own_by xd = 47 then Int32.ofNat 3 else (if own_by xc = 47 then Int32.ofNat 2 else (if own_by xb = 47 then Int32.ofNat 1 else (if own_by xa = 47 then Int32.ofNat 0 else (-1 : Int32)))))) = _; rw [if_neg (mt (own_by47 ch_xe).1 hc1207), if_pos ((own_by47 ch_xd).2 hc1240)]; rfl) (by decide) (by decide) (by decide) (by decide) (by decide) (by decide) (by decide) Old1201) hZ (wi hw 19 rfl) (wi hw 18 rfl) (by decide) (by decide)) (g := (mkF m 60 #[.val (.int ln), .val (.int ya), .val (.int yb), .val (.int yc), .val (.int yd), .val (.int ye), .val (.int 5), .val (.int xa), .val (.int xb), .val (.int xc), .val (.int xd), .val (.int xe), .val (.ref ra_1197), .unset, .unset, .unset] [(.ref ra_1197)])) rfl (by rw [hml]; rfl) (argsL := [(.ref ra_1197)]) (rest := []) (lenOf pd__Ljava_lang_String__Ljava_lang_String_ rfl) rfl (by show 2 * 0 + _ ≤ _; exact Nat.le_of_eq rfl) (hb hby at_60) (fun _ _ => ⟨rfl, (rfl : T1197.heap = T1197.heap), (by decide : 3 + 2 ≤ _), (by decide : 14 + 12 ≤ _)⟩)
    dsimp only [Pt.U, Pt.locs, Pt.cells, Pt.slots] at X1241 l1241 y1241 z1241 st1241 hQ1241
    subst l1241 y1241 z1241
    obtain ⟨ra_1241, t_1241, kt_1241, rfl, NQ1241, K1241, pq1241_0, pq1241_1, fq1241_0, fq1241_1, fq1241_2, fq1241_3⟩ := hQ1241
    have N1242 := Fr.app N1198 NQ1241
    have Old1253 := Old1201.keep K1241 all0
    have Kp1254 : Keep h0 T1241.heap [] := Kp1202.trans K1241 all0
    have Z1255 := Nat.le_trans Z1203 K1241.1
    have hk1256 := Nat.le_trans hk1204 K1241.1
    have CH1257 := CHv.keep K1241 (fun x hx => by cases hx) CH1205
    refine Rch.st (fun _ k => st1241 _ k) ?_
    show Rch p e below T1241 (mkF m 63 #[.val (.int ln), .val (.int ya), .val (.int yb), .val (.int yc), .val (.int yd), .val (.int ye), .val (.int 5), .val (.int xa), .val (.int xb), .val (.int xc), .val (.int xd), .val (.int xe), .val (.ref ra_1197), .unset, .unset, .unset] [(.ref ra_1241)]) _
    have f1258 : Arv Z T1241.heap t_1241 kt_1241 .byte (3 : Int32) [(.int (own_by xa)), (.int (own_by xb)), (.int (own_by xc))] (.int (0 : Int32)) := by have z := fq1241_3; rw [show own_take (([own_by xa, own_by xb, own_by xc, own_by xd, own_by xe] : List Int32).map Value.int) (.int (0 : Int32)) (3 : Int32).toNatClampNeg = [(.int (own_by xa)), (.int (own_by xb)), (.int (own_by xc))] from by rw [show (3 : Int32).toNatClampNeg = 3 from by decide]; rfl] at z; exact z
    refine w_astore (pc' := 65) (l' := #[.val (.int ln), .val (.int ya), .val (.int yb), .val (.int yc), .val (.int yd), .val (.int ye), .val (.int 5), .val (.int xa), .val (.int xb), .val (.int xc), .val (.int xd), .val (.int xe), .val (.ref ra_1197), .val (.ref ra_1241), .unset, .unset]) X1241 hx hby at_63 rfl rfl rfl ?_
    refine w_iconst (pc' := 66) (v := (-1)) X1241 hx hby at_65 rfl rfl ?_
    refine w_istore (pc' := 68) (l' := #[.val (.int ln), .val (.int ya), .val (.int yb), .val (.int yc), .val (.int yd), .val (.int ye), .val (.int 5), .val (.int xa), .val (.int xb), .val (.int xc), .val (.int xd), .val (.int xe), .val (.ref ra_1197), .val (.ref ra_1241), .val (.int (-1 : Int32)), .unset]) X1241 hx hby at_66 rfl rfl ?_
    refine w_iload (pc' := 70) X1241 hx hby at_68 rfl rfl ?_
    refine w_iconst (pc' := 71) (v := 4) X1241 hx hby at_70 rfl rfl ?_
    refine w_icmpNo (pc' := 74) X1241 hx hby at_71 (XT.ii_le_f (by decide)) rfl ?_
    refine w_iload (pc' := 76) X1241 hx hby at_74 rfl rfl ?_
    refine w_bipush (pc' := 78) (v := 47) X1241 hx hby at_76 rfl rfl ?_
    refine w_icmpYes (pc' := 87) X1241 hx hby at_78 (XT.ii_ne_t (hc1207)) (by decide) ?_
    refine w_iload (pc' := 89) X1241 hx hby at_87 rfl rfl ?_
    refine w_iconst (pc' := 90) (v := 3) X1241 hx hby at_89 rfl rfl ?_
    refine w_icmpNo (pc' := 93) X1241 hx hby at_90 (XT.ii_le_f (by decide)) rfl ?_
    refine w_iload (pc' := 95) X1241 hx hby at_93 rfl rfl ?_
    refine w_bipush (pc' := 97) (v := 47) X1241 hx hby at_95 rfl rfl ?_
    refine w_icmpNo (pc' := 100) X1241 hx hby at_97 (XT.ii_ne_f (hc1240)) rfl ?_
    refine w_iconst (pc' := 101) (v := 3) X1241 hx hby at_100 rfl rfl ?_
    refine w_istore (pc' := 103) (l' := #[.val (.int ln), .val (.int ya), .val (.int yb), .val (.int yc), .val (.int yd), .val (.int ye), .val (.int 5), .val (.int xa), .val (.int xb), .val (.int xc), .val (.int xd), .val (.int xe), .val (.ref ra_1197), .val (.ref ra_1241), .val (.int 3), .unset]) X1241 hx hby at_101 rfl rfl ?_
    refine w_goto (pc' := 159) X1241 hx hby at_103 (by decide) ?_
    refine w_iload (pc' := 161) X1241 hx hby at_159 rfl rfl ?_
    refine w_ifYes (pc' := 168) X1241 hx hby at_161 (XT.i0_ge_t (by decide)) (by decide) ?_
    refine w_iload (pc' := 170) X1241 hx hby at_168 rfl rfl ?_
    refine w_istore (pc' := 172) (l' := #[.val (.int ln), .val (.int ya), .val (.int yb), .val (.int yc), .val (.int yd), .val (.int ye), .val (.int 5), .val (.int xa), .val (.int xb), .val (.int xc), .val (.int xd), .val (.int xe), .val (.ref ra_1197), .val (.ref ra_1241), .val (.int 3), .val (.int 3)]) X1241 hx hby at_170 rfl rfl ?_
    refine w_aload (pc' := 174) X1241 hx hby at_172 rfl rfl rfl ?_
    refine w_nullNo (pc' := 177) X1241 hx hby at_174 rfl (fun q => nomatch q) rfl ?_
    refine w_aload (pc' := 179) X1241 hx hby at_177 rfl rfl rfl ?_
    obtain ⟨cq1259, kq1259, q1259a, q1259b, q1259c⟩ := isOf hZ (rfl : T1241.heap = T1241.heap) fq1241_0
    obtain ⟨_, _, ⟨T1259, L1259, k1259, n1259⟩, -, X1259, ⟨Lc1259, hQ1259, l1259, y1259, z1259⟩, st1259⟩ := X1241.virtualBack hx (y := (⟨"java/lang/String", "length", "()I"⟩ : MethodName)) (z := (⟨"java/lang/String", "length", "()I"⟩ : MethodName)) hown (mvT hZ (wi hw 60 rfl)) (mvT hZ (wi hw 26 rfl)) (notFace_of_selects (args := #[]) (mvT hZ (wi hw 28 rfl))) (mvT hZ (wi hw 28 rfl)) (mvT hZ (wi hw 27 rfl)) (by decide) (backOf (W := 0) (rm_length l Z a0 hw [] G1 ra_1241 0 t_1241 kt_1241 3 ([(.int (own_by xa)), (.int (own_by xb)), (.int (own_by xc))]) (.int 0) T1241.heap h0.size Z1255 (O2) (P5) fq1241_1 (Or.inl rfl) fq1241_2 f1258 fq1241_0 Old1253) hZ (wi hw 29 rfl) (wi hw 9 rfl) (by decide) (by decide)) q1259a q1259c (g := (mkF m 179 #[.val (.int ln), .val (.int ya), .val (.int yb), .val (.int yc), .val (.int yd), .val (.int ye), .val (.int 5), .val (.int xa), .val (.int xb), .val (.int xc), .val (.int xd), .val (.int xe), .val (.ref ra_1197), .val (.ref ra_1241), .val (.int 3), .val (.int 3)] [(.ref ra_1241)])) rfl (by rw [hml]; rfl) (Steps.refl _) (argsL := []) (rest := []) (lenOf pd___I rfl) rfl (by show 2 * 0 + _ ≤ _; exact Nat.le_of_eq rfl) (hb hby at_179) (fun _ _ => ⟨rfl, (rfl : T1241.heap = T1241.heap), (by decide : 5 + 0 ≤ _), (by decide : 26 + 0 ≤ _)⟩)
    dsimp only [Pt.U, Pt.locs, Pt.cells, Pt.slots] at X1259 l1259 y1259 z1259 st1259 hQ1259
    subst l1259 y1259 z1259
    obtain ⟨rfl, NQ1259, K1259⟩ := hQ1259
    have N1260 := Fr.app N1242 NQ1259
    refine Rch.st (fun _ k => st1259.trans k) ?_
    show Rch p e below T1259 (mkF m 182 #[.val (.int ln), .val (.int ya), .val (.int yb), .val (.int yc), .val (.int yd), .val (.int ye), .val (.int 5), .val (.int xa), .val (.int xb), .val (.int xc), .val (.int xd), .val (.int xe), .val (.ref ra_1197), .val (.ref ra_1241), .val (.int 3), .val (.int 3)] [(.int ((3 : Int32) >>> ((0 : Int32) &&& 31)))]) _
    refine w_iload (pc' := 184) X1259 hx hby at_182 rfl rfl ?_
    refine w_icmpYes (pc' := 189) X1259 hx hby at_184 (XT.ii_eq_t (by decide)) (by decide) ?_
    refine w_iload (pc' := 191) X1259 hx hby at_189 rfl rfl ?_
    refine w_ifNo (pc' := 194) X1259 hx hby at_191 (XT.i0_le_f (by decide)) rfl ?_
    refine w_aload (pc' := 196) X1259 hx hby at_194 rfl rfl rfl ?_
    refine w_iconst (pc' := 197) (v := 0) X1259 hx hby at_196 rfl rfl ?_
    obtain ⟨cq1261, kq1261, q1261a, q1261b, q1261c⟩ := isOf hZ K1259 fq1241_0
    obtain ⟨_, _, ⟨T1261, L1261, k1261, n1261⟩, -, X1261, ⟨Lc1261, hQ1261, l1261, y1261, z1261⟩, st1261⟩ := X1259.virtualBack hx (y := (⟨"java/lang/String", "charAt", "(I)C"⟩ : MethodName)) (z := (⟨"java/lang/String", "charAt", "(I)C"⟩ : MethodName)) hown (mvT hZ (wi hw 118 rfl)) (mvT hZ (wi hw 119 rfl)) (notFace_of_selects (args := #[]) (mvT hZ (wi hw 121 rfl))) (mvT hZ (wi hw 121 rfl)) (mvT hZ (wi hw 120 rfl)) (by decide) (backOf (W := 0) (rm_chA l Z a0 hw [] G1 ra_1241 t_1241 kt_1241 3 ([(.int (own_by xa)), (.int (own_by xb)), (.int (own_by xc))]) (.int 0) 0 (own_by xa) G3 T1241.heap h0.size Z1255 (O2) (P5) (O4) (rG3) fq1241_0 fq1241_1 fq1241_2 f1258 (by decide) (by decide) (by rfl) Old1253) hZ (wi hw 122 rfl) (wi hw 9 rfl) (by decide) (by decide)) q1261a q1261c (g := (mkF m 197 #[.val (.int ln), .val (.int ya), .val (.int yb), .val (.int yc), .val (.int yd), .val (.int ye), .val (.int 5), .val (.int xa), .val (.int xb), .val (.int xc), .val (.int xd), .val (.int xe), .val (.ref ra_1197), .val (.ref ra_1241), .val (.int 3), .val (.int 3)] [(.int 0), (.ref ra_1241)])) rfl (by rw [hml]; rfl) (Steps.refl _) (argsL := [(.int 0)]) (rest := []) (lenOf pd__I_C rfl) rfl (by show 2 * 0 + _ ≤ _; exact Nat.le_of_eq rfl) (hb hby at_197) (fun _ _ => ⟨rfl, K1259, (by decide : 5 + 0 ≤ _), (by decide : 26 + 0 ≤ _)⟩)
    dsimp only [Pt.U, Pt.locs, Pt.cells, Pt.slots] at X1261 l1261 y1261 z1261 st1261 hQ1261
    subst l1261 y1261 z1261
    obtain ⟨rfl, NQ1261, K1261⟩ := hQ1261
    have N1262 := Fr.app N1260 NQ1261
    refine Rch.st (fun _ k => st1261.trans k) ?_
    show Rch p e below T1261 (mkF m 200 #[.val (.int ln), .val (.int ya), .val (.int yb), .val (.int yc), .val (.int yd), .val (.int ye), .val (.int 5), .val (.int xa), .val (.int xb), .val (.int xc), .val (.int xd), .val (.int xe), .val (.ref ra_1197), .val (.ref ra_1241), .val (.int 3), .val (.int 3)] [(.int (nar .char ((own_by xa) &&& (255 : Int32))))]) _
    have r1263 : (nar .char ((own_by xa) &&& (255 : Int32))) = xa := ch_xa.by8
    rw [r1263]
    show Rch p e below T1261 (mkF m 200 #[.val (.int ln), .val (.int ya), .val (.int yb), .val (.int yc), .val (.int yd), .val (.int ye), .val (.int 5), .val (.int xa), .val (.int xb), .val (.int xc), .val (.int xd), .val (.int xe), .val (.ref ra_1197), .val (.ref ra_1241), .val (.int 3), .val (.int 3)] [(.int xa)]) _
    refine w_iload (pc' := 202) X1261 hx hby at_200 rfl rfl ?_
    refine w_icmpNo (pc' := 205) X1261 hx hby at_202 (XT.ii_ne_f (rfl)) rfl ?_
    refine w_iload (pc' := 207) X1261 hx hby at_205 rfl rfl ?_
    refine w_iconst (pc' := 208) (v := 1) X1261 hx hby at_207 rfl rfl ?_
    refine w_icmpNo (pc' := 211) X1261 hx hby at_208 (XT.ii_le_f (by decide)) rfl ?_
    refine w_aload (pc' := 213) X1261 hx hby at_211 rfl rfl rfl ?_
    refine w_iconst (pc' := 214) (v := 1) X1261 hx hby at_213 rfl rfl ?_
    obtain ⟨cq1264, kq1264, q1264a, q1264b, q1264c⟩ := isOf hZ K1261 fq1241_0
    obtain ⟨_, _, ⟨T1264, L1264, k1264, n1264⟩, -, X1264, ⟨Lc1264, hQ1264, l1264, y1264, z1264⟩, st1264⟩ := X1261.virtualBack hx (y := (⟨"java/lang/String", "charAt", "(I)C"⟩ : MethodName)) (z := (⟨"java/lang/String", "charAt", "(I)C"⟩ : MethodName)) hown (mvT hZ (wi hw 118 rfl)) (mvT hZ (wi hw 119 rfl)) (notFace_of_selects (args := #[]) (mvT hZ (wi hw 121 rfl))) (mvT hZ (wi hw 121 rfl)) (mvT hZ (wi hw 120 rfl)) (by decide) (backOf (W := 0) (rm_chA l Z a0 hw [] G1 ra_1241 t_1241 kt_1241 3 ([(.int (own_by xa)), (.int (own_by xb)), (.int (own_by xc))]) (.int 0) 1 (own_by xb) G3 T1241.heap h0.size Z1255 (O2) (P5) (O4) (rG3) fq1241_0 fq1241_1 fq1241_2 f1258 (by decide) (by decide) (by rfl) Old1253) hZ (wi hw 122 rfl) (wi hw 9 rfl) (by decide) (by decide)) q1264a q1264c (g := (mkF m 214 #[.val (.int ln), .val (.int ya), .val (.int yb), .val (.int yc), .val (.int yd), .val (.int ye), .val (.int 5), .val (.int xa), .val (.int xb), .val (.int xc), .val (.int xd), .val (.int xe), .val (.ref ra_1197), .val (.ref ra_1241), .val (.int 3), .val (.int 3)] [(.int 1), (.ref ra_1241)])) rfl (by rw [hml]; rfl) (Steps.refl _) (argsL := [(.int 1)]) (rest := []) (lenOf pd__I_C rfl) rfl (by show 2 * 0 + _ ≤ _; exact Nat.le_of_eq rfl) (hb hby at_214) (fun _ _ => ⟨rfl, K1261, (by decide : 5 + 0 ≤ _), (by decide : 26 + 0 ≤ _)⟩)
    dsimp only [Pt.U, Pt.locs, Pt.cells, Pt.slots] at X1264 l1264 y1264 z1264 st1264 hQ1264
    subst l1264 y1264 z1264
    obtain ⟨rfl, NQ1264, K1264⟩ := hQ1264
    have N1265 := Fr.app N1262 NQ1264
    refine Rch.st (fun _ k => st1264.trans k) ?_
    show Rch p e below T1264 (mkF m 217 #[.val (.int ln), .val (.int ya), .val (.int yb), .val (.int yc), .val (.int yd), .val (.int ye), .val (.int 5), .val (.int xa), .val (.int xb), .val (.int xc), .val (.int xd), .val (.int xe), .val (.ref ra_1197), .val (.ref ra_1241), .val (.int 3), .val (.int 3)] [(.int (nar .char ((own_by xb) &&& (255 : Int32))))]) _
    have r1266 : (nar .char ((own_by xb) &&& (255 : Int32))) = xb := ch_xb.by8
    rw [r1266]
    show Rch p e below T1264 (mkF m 217 #[.val (.int ln), .val (.int ya), .val (.int yb), .val (.int yc), .val (.int yd), .val (.int ye), .val (.int 5), .val (.int xa), .val (.int xb), .val (.int xc), .val (.int xd), .val (.int xe), .val (.ref ra_1197), .val (.ref ra_1241), .val (.int 3), .val (.int 3)] [(.int xb)]) _
    refine w_iload (pc' := 219) X1264 hx hby at_217 rfl rfl ?_
    refine w_icmpNo (pc' := 222) X1264 hx hby at_219 (XT.ii_ne_f (rfl)) rfl ?_
    refine w_iload (pc' := 224) X1264 hx hby at_222 rfl rfl ?_
    refine w_iconst (pc' := 225) (v := 2) X1264 hx hby at_224 rfl rfl ?_
    refine w_icmpNo (pc' := 228) X1264 hx hby at_225 (XT.ii_le_f (by decide)) rfl ?_
    refine w_aload (pc' := 230) X1264 hx hby at_228 rfl rfl rfl ?_
    refine w_iconst (pc' := 231) (v := 2) X1264 hx hby at_230 rfl rfl ?_
    obtain ⟨cq1267, kq1267, q1267a, q1267b, q1267c⟩ := isOf hZ K1264 fq1241_0
    obtain ⟨_, _, ⟨T1267, L1267, k1267, n1267⟩, -, X1267, ⟨Lc1267, hQ1267, l1267, y1267, z1267⟩, st1267⟩ := X1264.virtualBack hx (y := (⟨"java/lang/String", "charAt", "(I)C"⟩ : MethodName)) (z := (⟨"java/lang/String", "charAt", "(I)C"⟩ : MethodName)) hown (mvT hZ (wi hw 118 rfl)) (mvT hZ (wi hw 119 rfl)) (notFace_of_selects (args := #[]) (mvT hZ (wi hw 121 rfl))) (mvT hZ (wi hw 121 rfl)) (mvT hZ (wi hw 120 rfl)) (by decide) (backOf (W := 0) (rm_chA l Z a0 hw [] G1 ra_1241 t_1241 kt_1241 3 ([(.int (own_by xa)), (.int (own_by xb)), (.int (own_by xc))]) (.int 0) 2 (own_by xc) G3 T1241.heap h0.size Z1255 (O2) (P5) (O4) (rG3) fq1241_0 fq1241_1 fq1241_2 f1258 (by decide) (by decide) (by rfl) Old1253) hZ (wi hw 122 rfl) (wi hw 9 rfl) (by decide) (by decide)) q1267a q1267c (g := (mkF m 231 #[.val (.int ln), .val (.int ya), .val (.int yb), .val (.int yc), .val (.int yd), .val (.int ye), .val (.int 5), .val (.int xa), .val (.int xb), .val (.int xc), .val (.int xd), .val (.int xe), .val (.ref ra_1197), .val (.ref ra_1241), .val (.int 3), .val (.int 3)] [(.int 2), (.ref ra_1241)])) rfl (by rw [hml]; rfl) (Steps.refl _) (argsL := [(.int 2)]) (rest := []) (lenOf pd__I_C rfl) rfl (by show 2 * 0 + _ ≤ _; exact Nat.le_of_eq rfl) (hb hby at_231) (fun _ _ => ⟨rfl, K1264, (by decide : 5 + 0 ≤ _), (by decide : 26 + 0 ≤ _)⟩)
    dsimp only [Pt.U, Pt.locs, Pt.cells, Pt.slots] at X1267 l1267 y1267 z1267 st1267 hQ1267
    subst l1267 y1267 z1267
    obtain ⟨rfl, NQ1267, K1267⟩ := hQ1267
    have N1268 := Fr.app N1265 NQ1267
    refine Rch.st (fun _ k => st1267.trans k) ?_
    show Rch p e below T1267 (mkF m 234 #[.val (.int ln), .val (.int ya), .val (.int yb), .val (.int yc), .val (.int yd), .val (.int ye), .val (.int 5), .val (.int xa), .val (.int xb), .val (.int xc), .val (.int xd), .val (.int xe), .val (.ref ra_1197), .val (.ref ra_1241), .val (.int 3), .val (.int 3)] [(.int (nar .char ((own_by xc) &&& (255 : Int32))))]) _
    have r1269 : (nar .char ((own_by xc) &&& (255 : Int32))) = xc := ch_xc.by8
    rw [r1269]
    show Rch p e below T1267 (mkF m 234 #[.val (.int ln), .val (.int ya), .val (.int yb), .val (.int yc), .val (.int yd), .val (.int ye), .val (.int 5), .val (.int xa), .val (.int xb), .val (.int xc), .val (.int xd), .val (.int xe), .val (.ref ra_1197), .val (.ref ra_1241), .val (.int 3), .val (.int 3)] [(.int xc)]) _
    refine w_iload (pc' := 236) X1267 hx hby at_234 rfl rfl ?_
    refine w_icmpNo (pc' := 239) X1267 hx hby at_236 (XT.ii_ne_f (rfl)) rfl ?_
    refine w_iload (pc' := 241) X1267 hx hby at_239 rfl rfl ?_
    refine w_iconst (pc' := 242) (v := 3) X1267 hx hby at_241 rfl rfl ?_
    refine w_icmpYes (pc' := 256) X1267 hx hby at_242 (XT.ii_le_t (by decide)) (by decide) ?_
    refine w_iconst (pc' := 257) (v := 1) X1267 hx hby at_256 rfl rfl ?_
    refine w_goto (pc' := 261) X1267 hx hby at_257 (by decide) ?_
    exact Rch.retVW X1267 hx hS0 (by rw [K1267]; exact hk1256) Bd.returns rfl (Or.inl ⟨rfl, by simp, _, rfl⟩) (hb hby at_261) (by rw [K1267]; exact ⟨rfl, (own_Fr Z0 N1268), Kp1254, own_chv (s := s) (vm0 := s.vm) hZ hEL X1267.warmed CH1257⟩) (by decide) (by decide)
   ·skip
    by_cases hc1270 : xc = 47
    ·skip
     obtain ⟨_, _, ⟨T1271, L1271, k1271, n1271⟩, -, X1271, ⟨Lc1271, hQ1271, l1271, y1271, z1271⟩, st1271⟩ := Jvm.LawKit.callS X1197 hx (y := (⟨"com/example/fascicle/fascicle/Entries", "directoryOf", "(Ljava/lang/String;)Ljava/lang/String;"⟩ : MethodName)) hown (mvT hZ (wi hw 16 rfl)) (mvT hZ (wi hw 17 rfl)) (mvT hZ (wi hw 18 rfl)) (mvT hZ (wi hw 19 rfl)) (by decide) (backOf (W := 0) (rm_di_pos l Z a0 hw [] G1 G3 ra_1197 t_1197 kt_1197 5 ([own_by xa, own_by xb, own_by xc, own_by xd, own_by xe] : List Int32) 2 T1197.heap h0.size Z1203 (O2) (P5) (O4) (rG3) fq1197_0 fq1197_1 fq1197_2 f1206 (by decide) (by rw [show (5 : Int32).toNatClampNeg = 5 from by decide]; show (if own_by xe = 47 then Int32.ofNat 4 else (if own_by xd = 47 then Int32.ofNat 3 else (if own_by xc = 47 then Int32.ofNat 2 else (if own_by xb = 47 then Int32.ofNat 1 else (if own_by xa = 47 then Int32.ofNat 0 else (-1 : Int32)))))) = _; rw [if_neg (mt (own_by47 ch_xe).1 hc1207), if_neg (mt (own_by47 ch_xd).1 hc1240), if_pos ((own_by47 ch_xc).2 hc1270)]; rfl) (by decide) (by decide) (by decide) (by decide) (by decide) (by decide) (by decide) Old1201) hZ (wi hw 19 rfl) (wi hw 18 rfl) (by decide) (by decide)) (g := (mkF m 60 #[.val (.int ln), .val (.int ya), .val (.int yb), .val (.int yc), .val (.int yd), .val (.int ye), .val (.int 5), .val (.int xa), .val (.int xb), .val (.int xc), .val (.int xd), .val (.int xe), .val (.ref ra_1197), .unset, .unset, .unset] [(.ref ra_1197)])) rfl (by rw [hml]; rfl) (argsL := [(.ref ra_1197)]) (rest := []) (lenOf pd__Ljava_lang_String__Ljava_lang_String_ rfl) rfl (by show 2 * 0 + _ ≤ _; exact Nat.le_of_eq rfl) (hb hby at_60) (fun _ _ => ⟨rfl, (rfl : T1197.heap = T1197.heap), (by decide : 3 + 2 ≤ _), (by decide : 14 + 12 ≤ _)⟩)
     dsimp only [Pt.U, Pt.locs, Pt.cells, Pt.slots] at X1271 l1271 y1271 z1271 st1271 hQ1271
     subst l1271 y1271 z1271
     obtain ⟨ra_1271, t_1271, kt_1271, rfl, NQ1271, K1271, pq1271_0, pq1271_1, fq1271_0, fq1271_1, fq1271_2, fq1271_3⟩ := hQ1271
     have N1272 := Fr.app N1198 NQ1271
     have Old1283 := Old1201.keep K1271 all0
     have Kp1284 : Keep h0 T1271.heap [] := Kp1202.trans K1271 all0
     have Z1285 := Nat.le_trans Z1203 K1271.1
     have hk1286 := Nat.le_trans hk1204 K1271.1
     have CH1287 := CHv.keep K1271 (fun x hx => by cases hx) CH1205
     refine Rch.st (fun _ k => st1271 _ k) ?_
     show Rch p e below T1271 (mkF m 63 #[.val (.int ln), .val (.int ya), .val (.int yb), .val (.int yc), .val (.int yd), .val (.int ye), .val (.int 5), .val (.int xa), .val (.int xb), .val (.int xc), .val (.int xd), .val (.int xe), .val (.ref ra_1197), .unset, .unset, .unset] [(.ref ra_1271)]) _
     have f1288 : Arv Z T1271.heap t_1271 kt_1271 .byte (2 : Int32) [(.int (own_by xa)), (.int (own_by xb))] (.int (0 : Int32)) := by have z := fq1271_3; rw [show own_take (([own_by xa, own_by xb, own_by xc, own_by xd, own_by xe] : List Int32).map Value.int) (.int (0 : Int32)) (2 : Int32).toNatClampNeg = [(.int (own_by xa)), (.int (own_by xb))] from by rw [show (2 : Int32).toNatClampNeg = 2 from by decide]; rfl] at z; exact z
     refine w_astore (pc' := 65) (l' := #[.val (.int ln), .val (.int ya), .val (.int yb), .val (.int yc), .val (.int yd), .val (.int ye), .val (.int 5), .val (.int xa), .val (.int xb), .val (.int xc), .val (.int xd), .val (.int xe), .val (.ref ra_1197), .val (.ref ra_1271), .unset, .unset]) X1271 hx hby at_63 rfl rfl rfl ?_
     refine w_iconst (pc' := 66) (v := (-1)) X1271 hx hby at_65 rfl rfl ?_
     refine w_istore (pc' := 68) (l' := #[.val (.int ln), .val (.int ya), .val (.int yb), .val (.int yc), .val (.int yd), .val (.int ye), .val (.int 5), .val (.int xa), .val (.int xb), .val (.int xc), .val (.int xd), .val (.int xe), .val (.ref ra_1197), .val (.ref ra_1271), .val (.int (-1 : Int32)), .unset]) X1271 hx hby at_66 rfl rfl ?_
     refine w_iload (pc' := 70) X1271 hx hby at_68 rfl rfl ?_
     refine w_iconst (pc' := 71) (v := 4) X1271 hx hby at_70 rfl rfl ?_
     refine w_icmpNo (pc' := 74) X1271 hx hby at_71 (XT.ii_le_f (by decide)) rfl ?_
     refine w_iload (pc' := 76) X1271 hx hby at_74 rfl rfl ?_
     refine w_bipush (pc' := 78) (v := 47) X1271 hx hby at_76 rfl rfl ?_
     refine w_icmpYes (pc' := 87) X1271 hx hby at_78 (XT.ii_ne_t (hc1207)) (by decide) ?_
     refine w_iload (pc' := 89) X1271 hx hby at_87 rfl rfl ?_
     refine w_iconst (pc' := 90) (v := 3) X1271 hx hby at_89 rfl rfl ?_
     refine w_icmpNo (pc' := 93) X1271 hx hby at_90 (XT.ii_le_f (by decide)) rfl ?_
     refine w_iload (pc' := 95) X1271 hx hby at_93 rfl rfl ?_
     refine w_bipush (pc' := 97) (v := 47) X1271 hx hby at_95 rfl rfl ?_
     refine w_icmpYes (pc' := 106) X1271 hx hby at_97 (XT.ii_ne_t (hc1240)) (by decide) ?_
     refine w_iload (pc' := 108) X1271 hx hby at_106 rfl rfl ?_
     refine w_iconst (pc' := 109) (v := 2) X1271 hx hby at_108 rfl rfl ?_
     refine w_icmpNo (pc' := 112) X1271 hx hby at_109 (XT.ii_le_f (by decide)) rfl ?_
     refine w_iload (pc' := 114) X1271 hx hby at_112 rfl rfl ?_
     refine w_bipush (pc' := 116) (v := 47) X1271 hx hby at_114 rfl rfl ?_
     refine w_icmpNo (pc' := 119) X1271 hx hby at_116 (XT.ii_ne_f (hc1270)) rfl ?_
     refine w_iconst (pc' := 120) (v := 2) X1271 hx hby at_119 rfl rfl ?_
     refine w_istore (pc' := 122) (l' := #[.val (.int ln), .val (.int ya), .val (.int yb), .val (.int yc), .val (.int yd), .val (.int ye), .val (.int 5), .val (.int xa), .val (.int xb), .val (.int xc), .val (.int xd), .val (.int xe), .val (.ref ra_1197), .val (.ref ra_1271), .val (.int 2), .unset]) X1271 hx hby at_120 rfl rfl ?_
     refine w_goto (pc' := 159) X1271 hx hby at_122 (by decide) ?_
     refine w_iload (pc' := 161) X1271 hx hby at_159 rfl rfl ?_
     refine w_ifYes (pc' := 168) X1271 hx hby at_161 (XT.i0_ge_t (by decide)) (by decide) ?_
     refine w_iload (pc' := 170) X1271 hx hby at_168 rfl rfl ?_
     refine w_istore (pc' := 172) (l' := #[.val (.int ln), .val (.int ya), .val (.int yb), .val (.int yc), .val (.int yd), .val (.int ye), .val (.int 5), .val (.int xa), .val (.int xb), .val (.int xc), .val (.int xd), .val (.int xe), .val (.ref ra_1197), .val (.ref ra_1271), .val (.int 2), .val (.int 2)]) X1271 hx hby at_170 rfl rfl ?_
     refine w_aload (pc' := 174) X1271 hx hby at_172 rfl rfl rfl ?_
     refine w_nullNo (pc' := 177) X1271 hx hby at_174 rfl (fun q => nomatch q) rfl ?_
     refine w_aload (pc' := 179) X1271 hx hby at_177 rfl rfl rfl ?_
     obtain ⟨cq1289, kq1289, q1289a, q1289b, q1289c⟩ := isOf hZ (rfl : T1271.heap = T1271.heap) fq1271_0
     obtain ⟨_, _, ⟨T1289, L1289, k1289, n1289⟩, -, X1289, ⟨Lc1289, hQ1289, l1289, y1289, z1289⟩, st1289⟩ := X1271.virtualBack hx (y := (⟨"java/lang/String", "length", "()I"⟩ : MethodName)) (z := (⟨"java/lang/String", "length", "()I"⟩ : MethodName)) hown (mvT hZ (wi hw 60 rfl)) (mvT hZ (wi hw 26 rfl)) (notFace_of_selects (args := #[]) (mvT hZ (wi hw 28 rfl))) (mvT hZ (wi hw 28 rfl)) (mvT hZ (wi hw 27 rfl)) (by decide) (backOf (W := 0) (rm_length l Z a0 hw [] G1 ra_1271 0 t_1271 kt_1271 2 ([(.int (own_by xa)), (.int (own_by xb))]) (.int 0) T1271.heap h0.size Z1285 (O2) (P5) fq1271_1 (Or.inl rfl) fq1271_2 f1288 fq1271_0 Old1283) hZ (wi hw 29 rfl) (wi hw 9 rfl) (by decide) (by decide)) q1289a q1289c (g := (mkF m 179 #[.val (.int ln), .val (.int ya), .val (.int yb), .val (.int yc), .val (.int yd), .val (.int ye), .val (.int 5), .val (.int xa), .val (.int xb), .val (.int xc), .val (.int xd), .val (.int xe), .val (.ref ra_1197), .val (.ref ra_1271), .val (.int 2), .val (.int 2)] [(.ref ra_1271)])) rfl (by rw [hml]; rfl) (Steps.refl _) (argsL := []) (rest := []) (lenOf pd___I rfl) rfl (by show 2 * 0 + _ ≤ _; exact Nat.le_of_eq rfl) (hb hby at_179) (fun _ _ => ⟨rfl, (rfl : T1271.heap = T1271.heap), (by decide : 5 + 0 ≤ _), (by decide : 26 + 0 ≤ _)⟩)
     dsimp only [Pt.U, Pt.locs, Pt.cells, Pt.slots] at X1289 l1289 y1289 z1289 st1289 hQ1289
     subst l1289 y1289 z1289
     obtain ⟨rfl, NQ1289, K1289⟩ := hQ1289
     have N1290 := Fr.app N1272 NQ1289
     refine Rch.st (fun _ k => st1289.trans k) ?_
     show Rch p e below T1289 (mkF m 182 #[.val (.int ln), .val (.int ya), .val (.int yb), .val (.int yc), .val (.int yd), .val (.int ye), .val (.int 5), .val (.int xa), .val (.int xb), .val (.int xc), .val (.int xd), .val (.int xe), .val (.ref ra_1197), .val (.ref ra_1271), .val (.int 2), .val (.int 2)] [(.int ((2 : Int32) >>> ((0 : Int32) &&& 31)))]) _
     refine w_iload (pc' := 184) X1289 hx hby at_182 rfl rfl ?_
     refine w_icmpYes (pc' := 189) X1289 hx hby at_184 (XT.ii_eq_t (by decide)) (by decide) ?_
     refine w_iload (pc' := 191) X1289 hx hby at_189 rfl rfl ?_
     refine w_ifNo (pc' := 194) X1289 hx hby at_191 (XT.i0_le_f (by decide)) rfl ?_
     refine w_aload (pc' := 196) X1289 hx hby at_194 rfl rfl rfl ?_
     refine w_iconst (pc' := 197) (v := 0) X1289 hx hby at_196 rfl rfl ?_
     obtain ⟨cq1291, kq1291, q1291a, q1291b, q1291c⟩ := isOf hZ K1289 fq1271_0
     obtain ⟨_, _, ⟨T1291, L1291, k1291, n1291⟩, -, X1291, ⟨Lc1291, hQ1291, l1291, y1291, z1291⟩, st1291⟩ := X1289.virtualBack hx (y := (⟨"java/lang/String", "charAt", "(I)C"⟩ : MethodName)) (z := (⟨"java/lang/String", "charAt", "(I)C"⟩ : MethodName)) hown (mvT hZ (wi hw 118 rfl)) (mvT hZ (wi hw 119 rfl)) (notFace_of_selects (args := #[]) (mvT hZ (wi hw 121 rfl))) (mvT hZ (wi hw 121 rfl)) (mvT hZ (wi hw 120 rfl)) (by decide) (backOf (W := 0) (rm_chA l Z a0 hw [] G1 ra_1271 t_1271 kt_1271 2 ([(.int (own_by xa)), (.int (own_by xb))]) (.int 0) 0 (own_by xa) G3 T1271.heap h0.size Z1285 (O2) (P5) (O4) (rG3) fq1271_0 fq1271_1 fq1271_2 f1288 (by decide) (by decide) (by rfl) Old1283) hZ (wi hw 122 rfl) (wi hw 9 rfl) (by decide) (by decide)) q1291a q1291c (g := (mkF m 197 #[.val (.int ln), .val (.int ya), .val (.int yb), .val (.int yc), .val (.int yd), .val (.int ye), .val (.int 5), .val (.int xa), .val (.int xb), .val (.int xc), .val (.int xd), .val (.int xe), .val (.ref ra_1197), .val (.ref ra_1271), .val (.int 2), .val (.int 2)] [(.int 0), (.ref ra_1271)])) rfl (by rw [hml]; rfl) (Steps.refl _) (argsL := [(.int 0)]) (rest := []) (lenOf pd__I_C rfl) rfl (by show 2 * 0 + _ ≤ _; exact Nat.le_of_eq rfl) (hb hby at_197) (fun _ _ => ⟨rfl, K1289, (by decide : 5 + 0 ≤ _), (by decide : 26 + 0 ≤ _)⟩)
     dsimp only [Pt.U, Pt.locs, Pt.cells, Pt.slots] at X1291 l1291 y1291 z1291 st1291 hQ1291
     subst l1291 y1291 z1291
     obtain ⟨rfl, NQ1291, K1291⟩ := hQ1291
     have N1292 := Fr.app N1290 NQ1291
     refine Rch.st (fun _ k => st1291.trans k) ?_
     show Rch p e below T1291 (mkF m 200 #[.val (.int ln), .val (.int ya), .val (.int yb), .val (.int yc), .val (.int yd), .val (.int ye), .val (.int 5), .val (.int xa), .val (.int xb), .val (.int xc), .val (.int xd), .val (.int xe), .val (.ref ra_1197), .val (.ref ra_1271), .val (.int 2), .val (.int 2)] [(.int (nar .char ((own_by xa) &&& (255 : Int32))))]) _
     have r1293 : (nar .char ((own_by xa) &&& (255 : Int32))) = xa := ch_xa.by8
     rw [r1293]
     show Rch p e below T1291 (mkF m 200 #[.val (.int ln), .val (.int ya), .val (.int yb), .val (.int yc), .val (.int yd), .val (.int ye), .val (.int 5), .val (.int xa), .val (.int xb), .val (.int xc), .val (.int xd), .val (.int xe), .val (.ref ra_1197), .val (.ref ra_1271), .val (.int 2), .val (.int 2)] [(.int xa)]) _
     refine w_iload (pc' := 202) X1291 hx hby at_200 rfl rfl ?_
     refine w_icmpNo (pc' := 205) X1291 hx hby at_202 (XT.ii_ne_f (rfl)) rfl ?_
     refine w_iload (pc' := 207) X1291 hx hby at_205 rfl rfl ?_
     refine w_iconst (pc' := 208) (v := 1) X1291 hx hby at_207 rfl rfl ?_
     refine w_icmpNo (pc' := 211) X1291 hx hby at_208 (XT.ii_le_f (by decide)) rfl ?_
     refine w_aload (pc' := 213) X1291 hx hby at_211 rfl rfl rfl ?_
     refine w_iconst (pc' := 214) (v := 1) X1291 hx hby at_213 rfl rfl ?_
     obtain ⟨cq1294, kq1294, q1294a, q1294b, q1294c⟩ := isOf hZ K1291 fq1271_0
     obtain ⟨_, _, ⟨T1294, L1294, k1294, n1294⟩, -, X1294, ⟨Lc1294, hQ1294, l1294, y1294, z1294⟩, st1294⟩ := X1291.virtualBack hx (y := (⟨"java/lang/String", "charAt", "(I)C"⟩ : MethodName)) (z := (⟨"java/lang/String", "charAt", "(I)C"⟩ : MethodName)) hown (mvT hZ (wi hw 118 rfl)) (mvT hZ (wi hw 119 rfl)) (notFace_of_selects (args := #[]) (mvT hZ (wi hw 121 rfl))) (mvT hZ (wi hw 121 rfl)) (mvT hZ (wi hw 120 rfl)) (by decide) (backOf (W := 0) (rm_chA l Z a0 hw [] G1 ra_1271 t_1271 kt_1271 2 ([(.int (own_by xa)), (.int (own_by xb))]) (.int 0) 1 (own_by xb) G3 T1271.heap h0.size Z1285 (O2) (P5) (O4) (rG3) fq1271_0 fq1271_1 fq1271_2 f1288 (by decide) (by decide) (by rfl) Old1283) hZ (wi hw 122 rfl) (wi hw 9 rfl) (by decide) (by decide)) q1294a q1294c (g := (mkF m 214 #[.val (.int ln), .val (.int ya), .val (.int yb), .val (.int yc), .val (.int yd), .val (.int ye), .val (.int 5), .val (.int xa), .val (.int xb), .val (.int xc), .val (.int xd), .val (.int xe), .val (.ref ra_1197), .val (.ref ra_1271), .val (.int 2), .val (.int 2)] [(.int 1), (.ref ra_1271)])) rfl (by rw [hml]; rfl) (Steps.refl _) (argsL := [(.int 1)]) (rest := []) (lenOf pd__I_C rfl) rfl (by show 2 * 0 + _ ≤ _; exact Nat.le_of_eq rfl) (hb hby at_214) (fun _ _ => ⟨rfl, K1291, (by decide : 5 + 0 ≤ _), (by decide : 26 + 0 ≤ _)⟩)
     dsimp only [Pt.U, Pt.locs, Pt.cells, Pt.slots] at X1294 l1294 y1294 z1294 st1294 hQ1294
     subst l1294 y1294 z1294
     obtain ⟨rfl, NQ1294, K1294⟩ := hQ1294
     have N1295 := Fr.app N1292 NQ1294
     refine Rch.st (fun _ k => st1294.trans k) ?_
     show Rch p e below T1294 (mkF m 217 #[.val (.int ln), .val (.int ya), .val (.int yb), .val (.int yc), .val (.int yd), .val (.int ye), .val (.int 5), .val (.int xa), .val (.int xb), .val (.int xc), .val (.int xd), .val (.int xe), .val (.ref ra_1197), .val (.ref ra_1271), .val (.int 2), .val (.int 2)] [(.int (nar .char ((own_by xb) &&& (255 : Int32))))]) _
     have r1296 : (nar .char ((own_by xb) &&& (255 : Int32))) = xb := ch_xb.by8
     rw [r1296]
     show Rch p e below T1294 (mkF m 217 #[.val (.int ln), .val (.int ya), .val (.int yb), .val (.int yc), .val (.int yd), .val (.int ye), .val (.int 5), .val (.int xa), .val (.int xb), .val (.int xc), .val (.int xd), .val (.int xe), .val (.ref ra_1197), .val (.ref ra_1271), .val (.int 2), .val (.int 2)] [(.int xb)]) _
     refine w_iload (pc' := 219) X1294 hx hby at_217 rfl rfl ?_
     refine w_icmpNo (pc' := 222) X1294 hx hby at_219 (XT.ii_ne_f (rfl)) rfl ?_
     refine w_iload (pc' := 224) X1294 hx hby at_222 rfl rfl ?_
     refine w_iconst (pc' := 225) (v := 2) X1294 hx hby at_224 rfl rfl ?_
     refine w_icmpYes (pc' := 239) X1294 hx hby at_225 (XT.ii_le_t (by decide)) (by decide) ?_
     refine w_iload (pc' := 241) X1294 hx hby at_239 rfl rfl ?_
     refine w_iconst (pc' := 242) (v := 3) X1294 hx hby at_241 rfl rfl ?_
     refine w_icmpYes (pc' := 256) X1294 hx hby at_242 (XT.ii_le_t (by decide)) (by decide) ?_
     refine w_iconst (pc' := 257) (v := 1) X1294 hx hby at_256 rfl rfl ?_
     refine w_goto (pc' := 261) X1294 hx hby at_257 (by decide) ?_
     exact Rch.retVW X1294 hx hS0 (by rw [K1294]; exact hk1286) Bd.returns rfl (Or.inl ⟨rfl, by simp, _, rfl⟩) (hb hby at_261) (by rw [K1294]; exact ⟨rfl, (own_Fr Z0 N1295), Kp1284, own_chv (s := s) (vm0 := s.vm) hZ hEL X1294.warmed CH1287⟩) (by decide) (by decide)
    ·skip
     by_cases hc1297 : xb = 47
     ·skip
      obtain ⟨_, _, ⟨T1298, L1298, k1298, n1298⟩, -, X1298, ⟨Lc1298, hQ1298, l1298, y1298, z1298⟩, st1298⟩ := Jvm.LawKit.callS X1197 hx (y := (⟨"com/example/fascicle/fascicle/Entries", "directoryOf", "(Ljava/lang/String;)Ljava/lang/String;"⟩ : MethodName)) hown (mvT hZ (wi hw 16 rfl)) (mvT hZ (wi hw 17 rfl)) (mvT hZ (wi hw 18 rfl)) (mvT hZ (wi hw 19 rfl)) (by decide) (backOf (W := 0) (rm_di_pos l Z a0 hw [] G1 G3 ra_1197 t_1197 kt_1197 5 ([own_by xa, own_by xb, own_by xc, own_by xd, own_by xe] : List Int32) 1 T1197.heap h0.size Z1203 (O2) (P5) (O4) (rG3) fq1197_0 fq1197_1 fq1197_2 f1206 (by decide) (by rw [show (5 : Int32).toNatClampNeg = 5 from by decide]; show (if own_by xe = 47 then Int32.ofNat 4 else (if own_by xd = 47 then Int32.ofNat 3 else (if own_by xc = 47 then Int32.ofNat 2 else (if own_by xb = 47 then Int32.ofNat 1 else (if own_by xa = 47 then Int32.ofNat 0 else (-1 : Int32)))))) = _; rw [if_neg (mt (own_by47 ch_xe).1 hc1207), if_neg (mt (own_by47 ch_xd).1 hc1240), if_neg (mt (own_by47 ch_xc).1 hc1270), if_pos ((own_by47 ch_xb).2 hc1297)]; rfl) (by decide) (by decide) (by decide) (by decide) (by decide) (by decide) (by decide) Old1201) hZ (wi hw 19 rfl) (wi hw 18 rfl) (by decide) (by decide)) (g := (mkF m 60 #[.val (.int ln), .val (.int ya), .val (.int yb), .val (.int yc), .val (.int yd), .val (.int ye), .val (.int 5), .val (.int xa), .val (.int xb), .val (.int xc), .val (.int xd), .val (.int xe), .val (.ref ra_1197), .unset, .unset, .unset] [(.ref ra_1197)])) rfl (by rw [hml]; rfl) (argsL := [(.ref ra_1197)]) (rest := []) (lenOf pd__Ljava_lang_String__Ljava_lang_String_ rfl) rfl (by show 2 * 0 + _ ≤ _; exact Nat.le_of_eq rfl) (hb hby at_60) (fun _ _ => ⟨rfl, (rfl : T1197.heap = T1197.heap), (by decide : 3 + 2 ≤ _), (by decide : 14 + 12 ≤ _)⟩)
      dsimp only [Pt.U, Pt.locs, Pt.cells, Pt.slots] at X1298 l1298 y1298 z1298 st1298 hQ1298
      subst l1298 y1298 z1298
      obtain ⟨ra_1298, t_1298, kt_1298, rfl, NQ1298, K1298, pq1298_0, pq1298_1, fq1298_0, fq1298_1, fq1298_2, fq1298_3⟩ := hQ1298
      have N1299 := Fr.app N1198 NQ1298
      have Old1310 := Old1201.keep K1298 all0
      have Kp1311 : Keep h0 T1298.heap [] := Kp1202.trans K1298 all0
      have Z1312 := Nat.le_trans Z1203 K1298.1
      have hk1313 := Nat.le_trans hk1204 K1298.1
      have CH1314 := CHv.keep K1298 (fun x hx => by cases hx) CH1205
      refine Rch.st (fun _ k => st1298 _ k) ?_
      show Rch p e below T1298 (mkF m 63 #[.val (.int ln), .val (.int ya), .val (.int yb), .val (.int yc), .val (.int yd), .val (.int ye), .val (.int 5), .val (.int xa), .val (.int xb), .val (.int xc), .val (.int xd), .val (.int xe), .val (.ref ra_1197), .unset, .unset, .unset] [(.ref ra_1298)]) _
      have f1315 : Arv Z T1298.heap t_1298 kt_1298 .byte (1 : Int32) [(.int (own_by xa))] (.int (0 : Int32)) := by have z := fq1298_3; rw [show own_take (([own_by xa, own_by xb, own_by xc, own_by xd, own_by xe] : List Int32).map Value.int) (.int (0 : Int32)) (1 : Int32).toNatClampNeg = [(.int (own_by xa))] from by rw [show (1 : Int32).toNatClampNeg = 1 from by decide]; rfl] at z; exact z
      refine w_astore (pc' := 65) (l' := #[.val (.int ln), .val (.int ya), .val (.int yb), .val (.int yc), .val (.int yd), .val (.int ye), .val (.int 5), .val (.int xa), .val (.int xb), .val (.int xc), .val (.int xd), .val (.int xe), .val (.ref ra_1197), .val (.ref ra_1298), .unset, .unset]) X1298 hx hby at_63 rfl rfl rfl ?_
      refine w_iconst (pc' := 66) (v := (-1)) X1298 hx hby at_65 rfl rfl ?_
      refine w_istore (pc' := 68) (l' := #[.val (.int ln), .val (.int ya), .val (.int yb), .val (.int yc), .val (.int yd), .val (.int ye), .val (.int 5), .val (.int xa), .val (.int xb), .val (.int xc), .val (.int xd), .val (.int xe), .val (.ref ra_1197), .val (.ref ra_1298), .val (.int (-1 : Int32)), .unset]) X1298 hx hby at_66 rfl rfl ?_
      refine w_iload (pc' := 70) X1298 hx hby at_68 rfl rfl ?_
      refine w_iconst (pc' := 71) (v := 4) X1298 hx hby at_70 rfl rfl ?_
      refine w_icmpNo (pc' := 74) X1298 hx hby at_71 (XT.ii_le_f (by decide)) rfl ?_
      refine w_iload (pc' := 76) X1298 hx hby at_74 rfl rfl ?_
      refine w_bipush (pc' := 78) (v := 47) X1298 hx hby at_76 rfl rfl ?_
      refine w_icmpYes (pc' := 87) X1298 hx hby at_78 (XT.ii_ne_t (hc1207)) (by decide) ?_
      refine w_iload (pc' := 89) X1298 hx hby at_87 rfl rfl ?_
      refine w_iconst (pc' := 90) (v := 3) X1298 hx hby at_89 rfl rfl ?_
      refine w_icmpNo (pc' := 93) X1298 hx hby at_90 (XT.ii_le_f (by decide)) rfl ?_
      refine w_iload (pc' := 95) X1298 hx hby at_93 rfl rfl ?_
      refine w_bipush (pc' := 97) (v := 47) X1298 hx hby at_95 rfl rfl ?_
      refine w_icmpYes (pc' := 106) X1298 hx hby at_97 (XT.ii_ne_t (hc1240)) (by decide) ?_
      refine w_iload (pc' := 108) X1298 hx hby at_106 rfl rfl ?_
      refine w_iconst (pc' := 109) (v := 2) X1298 hx hby at_108 rfl rfl ?_
      refine w_icmpNo (pc' := 112) X1298 hx hby at_109 (XT.ii_le_f (by decide)) rfl ?_
      refine w_iload (pc' := 114) X1298 hx hby at_112 rfl rfl ?_
      refine w_bipush (pc' := 116) (v := 47) X1298 hx hby at_114 rfl rfl ?_
      refine w_icmpYes (pc' := 125) X1298 hx hby at_116 (XT.ii_ne_t (hc1270)) (by decide) ?_
      refine w_iload (pc' := 127) X1298 hx hby at_125 rfl rfl ?_
      refine w_iconst (pc' := 128) (v := 1) X1298 hx hby at_127 rfl rfl ?_
      refine w_icmpNo (pc' := 131) X1298 hx hby at_128 (XT.ii_le_f (by decide)) rfl ?_
      refine w_iload (pc' := 133) X1298 hx hby at_131 rfl rfl ?_
      refine w_bipush (pc' := 135) (v := 47) X1298 hx hby at_133 rfl rfl ?_
      refine w_icmpNo (pc' := 138) X1298 hx hby at_135 (XT.ii_ne_f (hc1297)) rfl ?_
      refine w_iconst (pc' := 139) (v := 1) X1298 hx hby at_138 rfl rfl ?_
      refine w_istore (pc' := 141) (l' := #[.val (.int ln), .val (.int ya), .val (.int yb), .val (.int yc), .val (.int yd), .val (.int ye), .val (.int 5), .val (.int xa), .val (.int xb), .val (.int xc), .val (.int xd), .val (.int xe), .val (.ref ra_1197), .val (.ref ra_1298), .val (.int 1), .unset]) X1298 hx hby at_139 rfl rfl ?_
      refine w_goto (pc' := 159) X1298 hx hby at_141 (by decide) ?_
      refine w_iload (pc' := 161) X1298 hx hby at_159 rfl rfl ?_
      refine w_ifYes (pc' := 168) X1298 hx hby at_161 (XT.i0_ge_t (by decide)) (by decide) ?_
      refine w_iload (pc' := 170) X1298 hx hby at_168 rfl rfl ?_
      refine w_istore (pc' := 172) (l' := #[.val (.int ln), .val (.int ya), .val (.int yb), .val (.int yc), .val (.int yd), .val (.int ye), .val (.int 5), .val (.int xa), .val (.int xb), .val (.int xc), .val (.int xd), .val (.int xe), .val (.ref ra_1197), .val (.ref ra_1298), .val (.int 1), .val (.int 1)]) X1298 hx hby at_170 rfl rfl ?_
      refine w_aload (pc' := 174) X1298 hx hby at_172 rfl rfl rfl ?_
      refine w_nullNo (pc' := 177) X1298 hx hby at_174 rfl (fun q => nomatch q) rfl ?_
      refine w_aload (pc' := 179) X1298 hx hby at_177 rfl rfl rfl ?_
      obtain ⟨cq1316, kq1316, q1316a, q1316b, q1316c⟩ := isOf hZ (rfl : T1298.heap = T1298.heap) fq1298_0
      obtain ⟨_, _, ⟨T1316, L1316, k1316, n1316⟩, -, X1316, ⟨Lc1316, hQ1316, l1316, y1316, z1316⟩, st1316⟩ := X1298.virtualBack hx (y := (⟨"java/lang/String", "length", "()I"⟩ : MethodName)) (z := (⟨"java/lang/String", "length", "()I"⟩ : MethodName)) hown (mvT hZ (wi hw 60 rfl)) (mvT hZ (wi hw 26 rfl)) (notFace_of_selects (args := #[]) (mvT hZ (wi hw 28 rfl))) (mvT hZ (wi hw 28 rfl)) (mvT hZ (wi hw 27 rfl)) (by decide) (backOf (W := 0) (rm_length l Z a0 hw [] G1 ra_1298 0 t_1298 kt_1298 1 ([(.int (own_by xa))]) (.int 0) T1298.heap h0.size Z1312 (O2) (P5) fq1298_1 (Or.inl rfl) fq1298_2 f1315 fq1298_0 Old1310) hZ (wi hw 29 rfl) (wi hw 9 rfl) (by decide) (by decide)) q1316a q1316c (g := (mkF m 179 #[.val (.int ln), .val (.int ya), .val (.int yb), .val (.int yc), .val (.int yd), .val (.int ye), .val (.int 5), .val (.int xa), .val (.int xb), .val (.int xc), .val (.int xd), .val (.int xe), .val (.ref ra_1197), .val (.ref ra_1298), .val (.int 1), .val (.int 1)] [(.ref ra_1298)])) rfl (by rw [hml]; rfl) (Steps.refl _) (argsL := []) (rest := []) (lenOf pd___I rfl) rfl (by show 2 * 0 + _ ≤ _; exact Nat.le_of_eq rfl) (hb hby at_179) (fun _ _ => ⟨rfl, (rfl : T1298.heap = T1298.heap), (by decide : 5 + 0 ≤ _), (by decide : 26 + 0 ≤ _)⟩)
      dsimp only [Pt.U, Pt.locs, Pt.cells, Pt.slots] at X1316 l1316 y1316 z1316 st1316 hQ1316
      subst l1316 y1316 z1316
      obtain ⟨rfl, NQ1316, K1316⟩ := hQ1316
      have N1317 := Fr.app N1299 NQ1316
      refine Rch.st (fun _ k => st1316.trans k) ?_
      show Rch p e below T1316 (mkF m 182 #[.val (.int ln), .val (.int ya), .val (.int yb), .val (.int yc), .val (.int yd), .val (.int ye), .val (.int 5), .val (.int xa), .val (.int xb), .val (.int xc), .val (.int xd), .val (.int xe), .val (.ref ra_1197), .val (.ref ra_1298), .val (.int 1), .val (.int 1)] [(.int ((1 : Int32) >>> ((0 : Int32) &&& 31)))]) _
      refine w_iload (pc' := 184) X1316 hx hby at_182 rfl rfl ?_
      refine w_icmpYes (pc' := 189) X1316 hx hby at_184 (XT.ii_eq_t (by decide)) (by decide) ?_
      refine w_iload (pc' := 191) X1316 hx hby at_189 rfl rfl ?_
      refine w_ifNo (pc' := 194) X1316 hx hby at_191 (XT.i0_le_f (by decide)) rfl ?_
      refine w_aload (pc' := 196) X1316 hx hby at_194 rfl rfl rfl ?_
      refine w_iconst (pc' := 197) (v := 0) X1316 hx hby at_196 rfl rfl ?_
      obtain ⟨cq1318, kq1318, q1318a, q1318b, q1318c⟩ := isOf hZ K1316 fq1298_0
      obtain ⟨_, _, ⟨T1318, L1318, k1318, n1318⟩, -, X1318, ⟨Lc1318, hQ1318, l1318, y1318, z1318⟩, st1318⟩ := X1316.virtualBack hx (y := (⟨"java/lang/String", "charAt", "(I)C"⟩ : MethodName)) (z := (⟨"java/lang/String", "charAt", "(I)C"⟩ : MethodName)) hown (mvT hZ (wi hw 118 rfl)) (mvT hZ (wi hw 119 rfl)) (notFace_of_selects (args := #[]) (mvT hZ (wi hw 121 rfl))) (mvT hZ (wi hw 121 rfl)) (mvT hZ (wi hw 120 rfl)) (by decide) (backOf (W := 0) (rm_chA l Z a0 hw [] G1 ra_1298 t_1298 kt_1298 1 ([(.int (own_by xa))]) (.int 0) 0 (own_by xa) G3 T1298.heap h0.size Z1312 (O2) (P5) (O4) (rG3) fq1298_0 fq1298_1 fq1298_2 f1315 (by decide) (by decide) (by rfl) Old1310) hZ (wi hw 122 rfl) (wi hw 9 rfl) (by decide) (by decide)) q1318a q1318c (g := (mkF m 197 #[.val (.int ln), .val (.int ya), .val (.int yb), .val (.int yc), .val (.int yd), .val (.int ye), .val (.int 5), .val (.int xa), .val (.int xb), .val (.int xc), .val (.int xd), .val (.int xe), .val (.ref ra_1197), .val (.ref ra_1298), .val (.int 1), .val (.int 1)] [(.int 0), (.ref ra_1298)])) rfl (by rw [hml]; rfl) (Steps.refl _) (argsL := [(.int 0)]) (rest := []) (lenOf pd__I_C rfl) rfl (by show 2 * 0 + _ ≤ _; exact Nat.le_of_eq rfl) (hb hby at_197) (fun _ _ => ⟨rfl, K1316, (by decide : 5 + 0 ≤ _), (by decide : 26 + 0 ≤ _)⟩)
      dsimp only [Pt.U, Pt.locs, Pt.cells, Pt.slots] at X1318 l1318 y1318 z1318 st1318 hQ1318
      subst l1318 y1318 z1318
      obtain ⟨rfl, NQ1318, K1318⟩ := hQ1318
      have N1319 := Fr.app N1317 NQ1318
      refine Rch.st (fun _ k => st1318.trans k) ?_
      show Rch p e below T1318 (mkF m 200 #[.val (.int ln), .val (.int ya), .val (.int yb), .val (.int yc), .val (.int yd), .val (.int ye), .val (.int 5), .val (.int xa), .val (.int xb), .val (.int xc), .val (.int xd), .val (.int xe), .val (.ref ra_1197), .val (.ref ra_1298), .val (.int 1), .val (.int 1)] [(.int (nar .char ((own_by xa) &&& (255 : Int32))))]) _
      have r1320 : (nar .char ((own_by xa) &&& (255 : Int32))) = xa := ch_xa.by8
      rw [r1320]
      show Rch p e below T1318 (mkF m 200 #[.val (.int ln), .val (.int ya), .val (.int yb), .val (.int yc), .val (.int yd), .val (.int ye), .val (.int 5), .val (.int xa), .val (.int xb), .val (.int xc), .val (.int xd), .val (.int xe), .val (.ref ra_1197), .val (.ref ra_1298), .val (.int 1), .val (.int 1)] [(.int xa)]) _
      refine w_iload (pc' := 202) X1318 hx hby at_200 rfl rfl ?_
      refine w_icmpNo (pc' := 205) X1318 hx hby at_202 (XT.ii_ne_f (rfl)) rfl ?_
      refine w_iload (pc' := 207) X1318 hx hby at_205 rfl rfl ?_
      refine w_iconst (pc' := 208) (v := 1) X1318 hx hby at_207 rfl rfl ?_
      refine w_icmpYes (pc' := 222) X1318 hx hby at_208 (XT.ii_le_t (by decide)) (by decide) ?_
      refine w_iload (pc' := 224) X1318 hx hby at_222 rfl rfl ?_
      refine w_iconst (pc' := 225) (v := 2) X1318 hx hby at_224 rfl rfl ?_
      refine w_icmpYes (pc' := 239) X1318 hx hby at_225 (XT.ii_le_t (by decide)) (by decide) ?_
      refine w_iload (pc' := 241) X1318 hx hby at_239 rfl rfl ?_
      refine w_iconst (pc' := 242) (v := 3) X1318 hx hby at_241 rfl rfl ?_
      refine w_icmpYes (pc' := 256) X1318 hx hby at_242 (XT.ii_le_t (by decide)) (by decide) ?_
      refine w_iconst (pc' := 257) (v := 1) X1318 hx hby at_256 rfl rfl ?_
      refine w_goto (pc' := 261) X1318 hx hby at_257 (by decide) ?_
      exact Rch.retVW X1318 hx hS0 (by rw [K1318]; exact hk1313) Bd.returns rfl (Or.inl ⟨rfl, by simp, _, rfl⟩) (hb hby at_261) (by rw [K1318]; exact ⟨rfl, (own_Fr Z0 N1319), Kp1311, own_chv (s := s) (vm0 := s.vm) hZ hEL X1318.warmed CH1314⟩) (by decide) (by decide)
     ·skip
      by_cases hc1321 : xa = 47
      ·skip
       obtain ⟨_, _, ⟨T1322, L1322, k1322, n1322⟩, -, X1322, hSx1322, hgx1322, ⟨Lc1322, hQ1322, l1322, y1322, z1322⟩, st1322⟩ := callSS X1197 hx (y := (⟨"com/example/fascicle/fascicle/Entries", "directoryOf", "(Ljava/lang/String;)Ljava/lang/String;"⟩ : MethodName)) hown (mvT hZ (wi hw 16 rfl)) (mvT hZ (wi hw 17 rfl)) (mvT hZ (wi hw 18 rfl)) (mvT hZ (wi hw 19 rfl)) (by decide) (backOfV (PV := fun vm => CHv Z consts_1 vm T1197.heap) (W := 0) (rm_di_zero l Z a0 hw [] G1 G3 ra_1197 t_1197 kt_1197 5 ([own_by xa, own_by xb, own_by xc, own_by xd, own_by xe] : List Int32) T1197.heap h0.size Z1203 (O2) (P5) (O4) (rG3) fq1197_0 fq1197_1 fq1197_2 f1206 (by decide) (by rw [show (5 : Int32).toNatClampNeg = 5 from by decide]; show (if own_by xe = 47 then Int32.ofNat 4 else (if own_by xd = 47 then Int32.ofNat 3 else (if own_by xc = 47 then Int32.ofNat 2 else (if own_by xb = 47 then Int32.ofNat 1 else (if own_by xa = 47 then Int32.ofNat 0 else (-1 : Int32)))))) = _; rw [if_neg (mt (own_by47 ch_xe).1 hc1207), if_neg (mt (own_by47 ch_xd).1 hc1240), if_neg (mt (own_by47 ch_xc).1 hc1270), if_neg (mt (own_by47 ch_xb).1 hc1297), if_pos ((own_by47 ch_xa).2 hc1321)]; rfl) (by decide) (by decide) Old1201) hZ (fun vm hW => own_chv (s := s) (vm0 := s.vm) hZ hEL hW CH1205) (wi hw 19 rfl) (wi hw 18 rfl) (by decide) (by decide)) (g := (mkF m 60 #[.val (.int ln), .val (.int ya), .val (.int yb), .val (.int yc), .val (.int yd), .val (.int ye), .val (.int 5), .val (.int xa), .val (.int xb), .val (.int xc), .val (.int xd), .val (.int xe), .val (.ref ra_1197), .unset, .unset, .unset] [(.ref ra_1197)])) rfl (by rw [hml]; rfl) (argsL := [(.ref ra_1197)]) (rest := []) (lenOf pd__Ljava_lang_String__Ljava_lang_String_ rfl) rfl (by show 2 * 0 + _ ≤ _; exact Nat.le_of_eq rfl) (hb hby at_60) (fun _ _ => ⟨rfl, (rfl : T1197.heap = T1197.heap), (by decide : 3 + 2 ≤ _), (by decide : 14 + 4 ≤ _)⟩)
       dsimp only [Pt.U, Pt.locs, Pt.cells, Pt.slots] at X1322 l1322 y1322 z1322 st1322 hQ1322 hSx1322 hgx1322
       subst l1322 y1322 z1322
       have hS1322 := foldS hS0 (by rw [(rfl : T1197.heap = T1197.heap)]; exact hk1204) hSx1322 hgx1322
       have hk1322 : T1322.heap.size ≤ T1322.heap.size := Nat.le_refl _
       have hZ1322 : Z.Warmed39 (s.setVm T1322.vm).vm := State.Warmed39.trans (t := s.setVm s.vm) hZ hSx1322.1
       have hown1322 : (s.setVm T1322.vm).vm.findClass "com/example/fascicle/fascicle/EntriesDirectoryOfPinLaw" = some m.cls := by rw [show (s.setVm T1322.vm).vm = T1322.vm from rfl, hSx1322.1.alike.findClass]; exact hown
       have X1322w : Stand p l e room_1 (s.setVm T1322.vm) m _ below meth c T1322 _ _ _ := X1322
       obtain ⟨ra_1322, t_1322, kt_1322, rfl, NQ1322, K1322, fq1322_0, fq1322_1, fq1322_2, fq1322_3, IQ1322⟩ := hQ1322
       have N1323 := Fr.app N1198 NQ1322
       have Old1328 := Old1201.keep K1322 all0
       have Kp1329 : Keep h0 T1322.heap [] := Kp1202.trans K1322 all0
       have Z1330 := Nat.le_trans Z1203 K1322.1
       refine Rch.st (fun _ k => st1322.trans k) ?_
       show Rch p e below T1322 (mkF m 63 #[.val (.int ln), .val (.int ya), .val (.int yb), .val (.int yc), .val (.int yd), .val (.int ye), .val (.int 5), .val (.int xa), .val (.int xb), .val (.int xc), .val (.int xd), .val (.int xe), .val (.ref ra_1197), .unset, .unset, .unset] [(.ref ra_1322)]) _
       refine w_astore (pc' := 65) (l' := #[.val (.int ln), .val (.int ya), .val (.int yb), .val (.int yc), .val (.int yd), .val (.int ye), .val (.int 5), .val (.int xa), .val (.int xb), .val (.int xc), .val (.int xd), .val (.int xe), .val (.ref ra_1197), .val (.ref ra_1322), .unset, .unset]) X1322w hx hby at_63 rfl rfl rfl ?_
       refine w_iconst (pc' := 66) (v := (-1)) X1322w hx hby at_65 rfl rfl ?_
       refine w_istore (pc' := 68) (l' := #[.val (.int ln), .val (.int ya), .val (.int yb), .val (.int yc), .val (.int yd), .val (.int ye), .val (.int 5), .val (.int xa), .val (.int xb), .val (.int xc), .val (.int xd), .val (.int xe), .val (.ref ra_1197), .val (.ref ra_1322), .val (.int (-1 : Int32)), .unset]) X1322w hx hby at_66 rfl rfl ?_
       refine w_iload (pc' := 70) X1322w hx hby at_68 rfl rfl ?_
       refine w_iconst (pc' := 71) (v := 4) X1322w hx hby at_70 rfl rfl ?_
       refine w_icmpNo (pc' := 74) X1322w hx hby at_71 (XT.ii_le_f (by decide)) rfl ?_
       refine w_iload (pc' := 76) X1322w hx hby at_74 rfl rfl ?_
       refine w_bipush (pc' := 78) (v := 47) X1322w hx hby at_76 rfl rfl ?_
       refine w_icmpYes (pc' := 87) X1322w hx hby at_78 (XT.ii_ne_t (hc1207)) (by decide) ?_
       refine w_iload (pc' := 89) X1322w hx hby at_87 rfl rfl ?_
       refine w_iconst (pc' := 90) (v := 3) X1322w hx hby at_89 rfl rfl ?_
       refine w_icmpNo (pc' := 93) X1322w hx hby at_90 (XT.ii_le_f (by decide)) rfl ?_
       refine w_iload (pc' := 95) X1322w hx hby at_93 rfl rfl ?_
       refine w_bipush (pc' := 97) (v := 47) X1322w hx hby at_95 rfl rfl ?_
       refine w_icmpYes (pc' := 106) X1322w hx hby at_97 (XT.ii_ne_t (hc1240)) (by decide) ?_
       refine w_iload (pc' := 108) X1322w hx hby at_106 rfl rfl ?_
       refine w_iconst (pc' := 109) (v := 2) X1322w hx hby at_108 rfl rfl ?_
       refine w_icmpNo (pc' := 112) X1322w hx hby at_109 (XT.ii_le_f (by decide)) rfl ?_
       refine w_iload (pc' := 114) X1322w hx hby at_112 rfl rfl ?_
       refine w_bipush (pc' := 116) (v := 47) X1322w hx hby at_114 rfl rfl ?_
       refine w_icmpYes (pc' := 125) X1322w hx hby at_116 (XT.ii_ne_t (hc1270)) (by decide) ?_
       refine w_iload (pc' := 127) X1322w hx hby at_125 rfl rfl ?_
       refine w_iconst (pc' := 128) (v := 1) X1322w hx hby at_127 rfl rfl ?_
       refine w_icmpNo (pc' := 131) X1322w hx hby at_128 (XT.ii_le_f (by decide)) rfl ?_
       refine w_iload (pc' := 133) X1322w hx hby at_131 rfl rfl ?_
       refine w_bipush (pc' := 135) (v := 47) X1322w hx hby at_133 rfl rfl ?_
       refine w_icmpYes (pc' := 144) X1322w hx hby at_135 (XT.ii_ne_t (hc1297)) (by decide) ?_
       refine w_iload (pc' := 146) X1322w hx hby at_144 rfl rfl ?_
       refine w_ifNo (pc' := 149) X1322w hx hby at_146 (XT.i0_le_f (by decide)) rfl ?_
       refine w_iload (pc' := 151) X1322w hx hby at_149 rfl rfl ?_
       refine w_bipush (pc' := 153) (v := 47) X1322w hx hby at_151 rfl rfl ?_
       refine w_icmpNo (pc' := 156) X1322w hx hby at_153 (XT.ii_ne_f (hc1321)) rfl ?_
       refine w_iconst (pc' := 157) (v := 0) X1322w hx hby at_156 rfl rfl ?_
       refine w_istore (pc' := 159) (l' := #[.val (.int ln), .val (.int ya), .val (.int yb), .val (.int yc), .val (.int yd), .val (.int ye), .val (.int 5), .val (.int xa), .val (.int xb), .val (.int xc), .val (.int xd), .val (.int xe), .val (.ref ra_1197), .val (.ref ra_1322), .val (.int 0), .unset]) X1322w hx hby at_157 rfl rfl ?_
       refine w_iload (pc' := 161) X1322w hx hby at_159 rfl rfl ?_
       refine w_ifYes (pc' := 168) X1322w hx hby at_161 (XT.i0_ge_t (by decide)) (by decide) ?_
       refine w_iload (pc' := 170) X1322w hx hby at_168 rfl rfl ?_
       refine w_istore (pc' := 172) (l' := #[.val (.int ln), .val (.int ya), .val (.int yb), .val (.int yc), .val (.int yd), .val (.int ye), .val (.int 5), .val (.int xa), .val (.int xb), .val (.int xc), .val (.int xd), .val (.int xe), .val (.ref ra_1197), .val (.ref ra_1322), .val (.int 0), .val (.int 0)]) X1322w hx hby at_170 rfl rfl ?_
       refine w_aload (pc' := 174) X1322w hx hby at_172 rfl rfl rfl ?_
       refine w_nullNo (pc' := 177) X1322w hx hby at_174 rfl (fun q => nomatch q) rfl ?_
       refine w_aload (pc' := 179) X1322w hx hby at_177 rfl rfl rfl ?_
       obtain ⟨cq1331, kq1331, q1331a, q1331b, q1331c⟩ := isOf hZ1322 (rfl : T1322.heap = T1322.heap) fq1322_0
       obtain ⟨_, _, ⟨T1331, L1331, k1331, n1331⟩, -, X1331, ⟨Lc1331, hQ1331, l1331, y1331, z1331⟩, st1331⟩ := X1322w.virtualBack hx (y := (⟨"java/lang/String", "length", "()I"⟩ : MethodName)) (z := (⟨"java/lang/String", "length", "()I"⟩ : MethodName)) hown1322 (mvT hZ1322 (wi hw 60 rfl)) (mvT hZ1322 (wi hw 26 rfl)) (notFace_of_selects (args := #[]) (mvT hZ1322 (wi hw 28 rfl))) (mvT hZ1322 (wi hw 28 rfl)) (mvT hZ1322 (wi hw 27 rfl)) (by decide) (backOf (W := 0) (rm_length l Z a0 hw [] G1 ra_1322 0 t_1322 kt_1322 0 ([]) (.int 0) T1322.heap h0.size Z1330 (O2) (P5) fq1322_1 (Or.inl rfl) fq1322_2 fq1322_3 fq1322_0 Old1328) hZ1322 (wi hw 29 rfl) (wi hw 9 rfl) (by decide) (by decide)) q1331a q1331c (g := (mkF m 179 #[.val (.int ln), .val (.int ya), .val (.int yb), .val (.int yc), .val (.int yd), .val (.int ye), .val (.int 5), .val (.int xa), .val (.int xb), .val (.int xc), .val (.int xd), .val (.int xe), .val (.ref ra_1197), .val (.ref ra_1322), .val (.int 0), .val (.int 0)] [(.ref ra_1322)])) rfl (by rw [hml]; rfl) (Steps.refl _) (argsL := []) (rest := []) (lenOf pd___I rfl) rfl (by show 2 * 0 + _ ≤ _; exact Nat.le_of_eq rfl) (hb hby at_179) (fun _ _ => ⟨rfl, (rfl : T1322.heap = T1322.heap), (by decide : 5 + 0 ≤ _), (by decide : 18 + 0 ≤ _)⟩)
       dsimp only [Pt.U, Pt.locs, Pt.cells, Pt.slots] at X1331 l1331 y1331 z1331 st1331 hQ1331
       subst l1331 y1331 z1331
       obtain ⟨rfl, NQ1331, K1331⟩ := hQ1331
       have N1332 := Fr.app N1323 NQ1331
       refine Rch.st (fun _ k => st1331.trans k) ?_
       show Rch p e below T1331 (mkF m 182 #[.val (.int ln), .val (.int ya), .val (.int yb), .val (.int yc), .val (.int yd), .val (.int ye), .val (.int 5), .val (.int xa), .val (.int xb), .val (.int xc), .val (.int xd), .val (.int xe), .val (.ref ra_1197), .val (.ref ra_1322), .val (.int 0), .val (.int 0)] [(.int ((0 : Int32) >>> ((0 : Int32) &&& 31)))]) _
       refine w_iload (pc' := 184) X1331 hx hby at_182 rfl rfl ?_
       refine w_icmpYes (pc' := 189) X1331 hx hby at_184 (XT.ii_eq_t (by decide)) (by decide) ?_
       refine w_iload (pc' := 191) X1331 hx hby at_189 rfl rfl ?_
       refine w_ifYes (pc' := 205) X1331 hx hby at_191 (XT.i0_le_t (by decide)) (by decide) ?_
       refine w_iload (pc' := 207) X1331 hx hby at_205 rfl rfl ?_
       refine w_iconst (pc' := 208) (v := 1) X1331 hx hby at_207 rfl rfl ?_
       refine w_icmpYes (pc' := 222) X1331 hx hby at_208 (XT.ii_le_t (by decide)) (by decide) ?_
       refine w_iload (pc' := 224) X1331 hx hby at_222 rfl rfl ?_
       refine w_iconst (pc' := 225) (v := 2) X1331 hx hby at_224 rfl rfl ?_
       refine w_icmpYes (pc' := 239) X1331 hx hby at_225 (XT.ii_le_t (by decide)) (by decide) ?_
       refine w_iload (pc' := 241) X1331 hx hby at_239 rfl rfl ?_
       refine w_iconst (pc' := 242) (v := 3) X1331 hx hby at_241 rfl rfl ?_
       refine w_icmpYes (pc' := 256) X1331 hx hby at_242 (XT.ii_le_t (by decide)) (by decide) ?_
       refine w_iconst (pc' := 257) (v := 1) X1331 hx hby at_256 rfl rfl ?_
       refine w_goto (pc' := 261) X1331 hx hby at_257 (by decide) ?_
       exact Rch.retVW X1331 hx hS1322 (by rw [K1331]; exact hk1322) Bd.returns rfl (Or.inl ⟨rfl, by simp, _, rfl⟩) (hb hby at_261) (by rw [K1331]; exact ⟨rfl, (own_Fr Z0 N1332), Kp1329, own_chv (s := s) (vm0 := T1322.vm) hZ1322 hEL X1331.warmed IQ1322⟩) (by decide) (by decide)
      ·skip
       obtain ⟨_, _, ⟨T1333, L1333, k1333, n1333⟩, -, X1333, hSx1333, hgx1333, ⟨Lc1333, hQ1333, l1333, y1333, z1333⟩, st1333⟩ := callSS X1197 hx (y := (⟨"com/example/fascicle/fascicle/Entries", "directoryOf", "(Ljava/lang/String;)Ljava/lang/String;"⟩ : MethodName)) hown (mvT hZ (wi hw 16 rfl)) (mvT hZ (wi hw 17 rfl)) (mvT hZ (wi hw 18 rfl)) (mvT hZ (wi hw 19 rfl)) (by decide) (backOfV (PV := fun vm => CHv Z consts_1 vm T1197.heap) (W := 0) (rm_di_neg l Z a0 hw [] G1 G3 ra_1197 t_1197 kt_1197 5 ([own_by xa, own_by xb, own_by xc, own_by xd, own_by xe] : List Int32) T1197.heap h0.size Z1203 (O2) (P5) (O4) (rG3) fq1197_0 fq1197_1 fq1197_2 f1206 (by decide) (by rw [show (5 : Int32).toNatClampNeg = 5 from by decide]; show (if own_by xe = 47 then Int32.ofNat 4 else (if own_by xd = 47 then Int32.ofNat 3 else (if own_by xc = 47 then Int32.ofNat 2 else (if own_by xb = 47 then Int32.ofNat 1 else (if own_by xa = 47 then Int32.ofNat 0 else (-1 : Int32)))))) = _; rw [if_neg (mt (own_by47 ch_xe).1 hc1207), if_neg (mt (own_by47 ch_xd).1 hc1240), if_neg (mt (own_by47 ch_xc).1 hc1270), if_neg (mt (own_by47 ch_xb).1 hc1297), if_neg (mt (own_by47 ch_xa).1 hc1321)]) Old1201) hZ (fun vm hW => own_chv (s := s) (vm0 := s.vm) hZ hEL hW CH1205) (wi hw 19 rfl) (wi hw 18 rfl) (by decide) (by decide)) (g := (mkF m 60 #[.val (.int ln), .val (.int ya), .val (.int yb), .val (.int yc), .val (.int yd), .val (.int ye), .val (.int 5), .val (.int xa), .val (.int xb), .val (.int xc), .val (.int xd), .val (.int xe), .val (.ref ra_1197), .unset, .unset, .unset] [(.ref ra_1197)])) rfl (by rw [hml]; rfl) (argsL := [(.ref ra_1197)]) (rest := []) (lenOf pd__Ljava_lang_String__Ljava_lang_String_ rfl) rfl (by show 2 * 0 + _ ≤ _; exact Nat.le_of_eq rfl) (hb hby at_60) (fun _ _ => ⟨rfl, (rfl : T1197.heap = T1197.heap), (by decide : 3 + 2 ≤ _), (by decide : 14 + 4 ≤ _)⟩)
       dsimp only [Pt.U, Pt.locs, Pt.cells, Pt.slots] at X1333 l1333 y1333 z1333 st1333 hQ1333 hSx1333 hgx1333
       subst l1333 y1333 z1333
       have hS1333 := foldS hS0 (by rw [(rfl : T1197.heap = T1197.heap)]; exact hk1204) hSx1333 hgx1333
       have hk1333 : T1333.heap.size ≤ T1333.heap.size := Nat.le_refl _
       have hZ1333 : Z.Warmed39 (s.setVm T1333.vm).vm := State.Warmed39.trans (t := s.setVm s.vm) hZ hSx1333.1
       have hown1333 : (s.setVm T1333.vm).vm.findClass "com/example/fascicle/fascicle/EntriesDirectoryOfPinLaw" = some m.cls := by rw [show (s.setVm T1333.vm).vm = T1333.vm from rfl, hSx1333.1.alike.findClass]; exact hown
       have X1333w : Stand p l e room_1 (s.setVm T1333.vm) m _ below meth c T1333 _ _ _ := X1333
       obtain ⟨ra_1333, t_1333, kt_1333, rfl, NQ1333, K1333, fq1333_0, fq1333_1, fq1333_2, fq1333_3, IQ1333⟩ := hQ1333
       have N1334 := Fr.app N1198 NQ1333
       have Old1339 := Old1201.keep K1333 all0
       have Kp1340 : Keep h0 T1333.heap [] := Kp1202.trans K1333 all0
       have Z1341 := Nat.le_trans Z1203 K1333.1
       refine Rch.st (fun _ k => st1333.trans k) ?_
       show Rch p e below T1333 (mkF m 63 #[.val (.int ln), .val (.int ya), .val (.int yb), .val (.int yc), .val (.int yd), .val (.int ye), .val (.int 5), .val (.int xa), .val (.int xb), .val (.int xc), .val (.int xd), .val (.int xe), .val (.ref ra_1197), .unset, .unset, .unset] [(.ref ra_1333)]) _
       refine w_astore (pc' := 65) (l' := #[.val (.int ln), .val (.int ya), .val (.int yb), .val (.int yc), .val (.int yd), .val (.int ye), .val (.int 5), .val (.int xa), .val (.int xb), .val (.int xc), .val (.int xd), .val (.int xe), .val (.ref ra_1197), .val (.ref ra_1333), .unset, .unset]) X1333w hx hby at_63 rfl rfl rfl ?_
       refine w_iconst (pc' := 66) (v := (-1)) X1333w hx hby at_65 rfl rfl ?_
       refine w_istore (pc' := 68) (l' := #[.val (.int ln), .val (.int ya), .val (.int yb), .val (.int yc), .val (.int yd), .val (.int ye), .val (.int 5), .val (.int xa), .val (.int xb), .val (.int xc), .val (.int xd), .val (.int xe), .val (.ref ra_1197), .val (.ref ra_1333), .val (.int (-1 : Int32)), .unset]) X1333w hx hby at_66 rfl rfl ?_
       refine w_iload (pc' := 70) X1333w hx hby at_68 rfl rfl ?_
       refine w_iconst (pc' := 71) (v := 4) X1333w hx hby at_70 rfl rfl ?_
       refine w_icmpNo (pc' := 74) X1333w hx hby at_71 (XT.ii_le_f (by decide)) rfl ?_
       refine w_iload (pc' := 76) X1333w hx hby at_74 rfl rfl ?_
       refine w_bipush (pc' := 78) (v := 47) X1333w hx hby at_76 rfl rfl ?_
       refine w_icmpYes (pc' := 87) X1333w hx hby at_78 (XT.ii_ne_t (hc1207)) (by decide) ?_
       refine w_iload (pc' := 89) X1333w hx hby at_87 rfl rfl ?_
       refine w_iconst (pc' := 90) (v := 3) X1333w hx hby at_89 rfl rfl ?_
       refine w_icmpNo (pc' := 93) X1333w hx hby at_90 (XT.ii_le_f (by decide)) rfl ?_
       refine w_iload (pc' := 95) X1333w hx hby at_93 rfl rfl ?_
       refine w_bipush (pc' := 97) (v := 47) X1333w hx hby at_95 rfl rfl ?_
       refine w_icmpYes (pc' := 106) X1333w hx hby at_97 (XT.ii_ne_t (hc1240)) (by decide) ?_
       refine w_iload (pc' := 108) X1333w hx hby at_106 rfl rfl ?_
       refine w_iconst (pc' := 109) (v := 2) X1333w hx hby at_108 rfl rfl ?_
       refine w_icmpNo (pc' := 112) X1333w hx hby at_109 (XT.ii_le_f (by decide)) rfl ?_
       refine w_iload (pc' := 114) X1333w hx hby at_112 rfl rfl ?_
       refine w_bipush (pc' := 116) (v := 47) X1333w hx hby at_114 rfl rfl ?_
       refine w_icmpYes (pc' := 125) X1333w hx hby at_116 (XT.ii_ne_t (hc1270)) (by decide) ?_
       refine w_iload (pc' := 127) X1333w hx hby at_125 rfl rfl ?_
       refine w_iconst (pc' := 128) (v := 1) X1333w hx hby at_127 rfl rfl ?_
       refine w_icmpNo (pc' := 131) X1333w hx hby at_128 (XT.ii_le_f (by decide)) rfl ?_
       refine w_iload (pc' := 133) X1333w hx hby at_131 rfl rfl ?_
       refine w_bipush (pc' := 135) (v := 47) X1333w hx hby at_133 rfl rfl ?_
       refine w_icmpYes (pc' := 144) X1333w hx hby at_135 (XT.ii_ne_t (hc1297)) (by decide) ?_
       refine w_iload (pc' := 146) X1333w hx hby at_144 rfl rfl ?_
       refine w_ifNo (pc' := 149) X1333w hx hby at_146 (XT.i0_le_f (by decide)) rfl ?_
       refine w_iload (pc' := 151) X1333w hx hby at_149 rfl rfl ?_
       refine w_bipush (pc' := 153) (v := 47) X1333w hx hby at_151 rfl rfl ?_
       refine w_icmpYes (pc' := 159) X1333w hx hby at_153 (XT.ii_ne_t (hc1321)) (by decide) ?_
       refine w_iload (pc' := 161) X1333w hx hby at_159 rfl rfl ?_
       refine w_ifNo (pc' := 164) X1333w hx hby at_161 (XT.i0_ge_f (by decide)) rfl ?_
       refine w_iconst (pc' := 165) (v := 0) X1333w hx hby at_164 rfl rfl ?_
       refine w_goto (pc' := 170) X1333w hx hby at_165 (by decide) ?_
       refine w_istore (pc' := 172) (l' := #[.val (.int ln), .val (.int ya), .val (.int yb), .val (.int yc), .val (.int yd), .val (.int ye), .val (.int 5), .val (.int xa), .val (.int xb), .val (.int xc), .val (.int xd), .val (.int xe), .val (.ref ra_1197), .val (.ref ra_1333), .val (.int (-1 : Int32)), .val (.int 0)]) X1333w hx hby at_170 rfl rfl ?_
       refine w_aload (pc' := 174) X1333w hx hby at_172 rfl rfl rfl ?_
       refine w_nullNo (pc' := 177) X1333w hx hby at_174 rfl (fun q => nomatch q) rfl ?_
       refine w_aload (pc' := 179) X1333w hx hby at_177 rfl rfl rfl ?_
       obtain ⟨cq1342, kq1342, q1342a, q1342b, q1342c⟩ := isOf hZ1333 (rfl : T1333.heap = T1333.heap) fq1333_0
       obtain ⟨_, _, ⟨T1342, L1342, k1342, n1342⟩, -, X1342, ⟨Lc1342, hQ1342, l1342, y1342, z1342⟩, st1342⟩ := X1333w.virtualBack hx (y := (⟨"java/lang/String", "length", "()I"⟩ : MethodName)) (z := (⟨"java/lang/String", "length", "()I"⟩ : MethodName)) hown1333 (mvT hZ1333 (wi hw 60 rfl)) (mvT hZ1333 (wi hw 26 rfl)) (notFace_of_selects (args := #[]) (mvT hZ1333 (wi hw 28 rfl))) (mvT hZ1333 (wi hw 28 rfl)) (mvT hZ1333 (wi hw 27 rfl)) (by decide) (backOf (W := 0) (rm_length l Z a0 hw [] G1 ra_1333 0 t_1333 kt_1333 0 ([]) (.int 0) T1333.heap h0.size Z1341 (O2) (P5) fq1333_1 (Or.inl rfl) fq1333_2 fq1333_3 fq1333_0 Old1339) hZ1333 (wi hw 29 rfl) (wi hw 9 rfl) (by decide) (by decide)) q1342a q1342c (g := (mkF m 179 #[.val (.int ln), .val (.int ya), .val (.int yb), .val (.int yc), .val (.int yd), .val (.int ye), .val (.int 5), .val (.int xa), .val (.int xb), .val (.int xc), .val (.int xd), .val (.int xe), .val (.ref ra_1197), .val (.ref ra_1333), .val (.int (-1 : Int32)), .val (.int 0)] [(.ref ra_1333)])) rfl (by rw [hml]; rfl) (Steps.refl _) (argsL := []) (rest := []) (lenOf pd___I rfl) rfl (by show 2 * 0 + _ ≤ _; exact Nat.le_of_eq rfl) (hb hby at_179) (fun _ _ => ⟨rfl, (rfl : T1333.heap = T1333.heap), (by decide : 5 + 0 ≤ _), (by decide : 18 + 0 ≤ _)⟩)
       dsimp only [Pt.U, Pt.locs, Pt.cells, Pt.slots] at X1342 l1342 y1342 z1342 st1342 hQ1342
       subst l1342 y1342 z1342
       obtain ⟨rfl, NQ1342, K1342⟩ := hQ1342
       have N1343 := Fr.app N1334 NQ1342
       refine Rch.st (fun _ k => st1342.trans k) ?_
       show Rch p e below T1342 (mkF m 182 #[.val (.int ln), .val (.int ya), .val (.int yb), .val (.int yc), .val (.int yd), .val (.int ye), .val (.int 5), .val (.int xa), .val (.int xb), .val (.int xc), .val (.int xd), .val (.int xe), .val (.ref ra_1197), .val (.ref ra_1333), .val (.int (-1 : Int32)), .val (.int 0)] [(.int ((0 : Int32) >>> ((0 : Int32) &&& 31)))]) _
       refine w_iload (pc' := 184) X1342 hx hby at_182 rfl rfl ?_
       refine w_icmpYes (pc' := 189) X1342 hx hby at_184 (XT.ii_eq_t (by decide)) (by decide) ?_
       refine w_iload (pc' := 191) X1342 hx hby at_189 rfl rfl ?_
       refine w_ifYes (pc' := 205) X1342 hx hby at_191 (XT.i0_le_t (by decide)) (by decide) ?_
       refine w_iload (pc' := 207) X1342 hx hby at_205 rfl rfl ?_
       refine w_iconst (pc' := 208) (v := 1) X1342 hx hby at_207 rfl rfl ?_
       refine w_icmpYes (pc' := 222) X1342 hx hby at_208 (XT.ii_le_t (by decide)) (by decide) ?_
       refine w_iload (pc' := 224) X1342 hx hby at_222 rfl rfl ?_
       refine w_iconst (pc' := 225) (v := 2) X1342 hx hby at_224 rfl rfl ?_
       refine w_icmpYes (pc' := 239) X1342 hx hby at_225 (XT.ii_le_t (by decide)) (by decide) ?_
       refine w_iload (pc' := 241) X1342 hx hby at_239 rfl rfl ?_
       refine w_iconst (pc' := 242) (v := 3) X1342 hx hby at_241 rfl rfl ?_
       refine w_icmpYes (pc' := 256) X1342 hx hby at_242 (XT.ii_le_t (by decide)) (by decide) ?_
       refine w_iconst (pc' := 257) (v := 1) X1342 hx hby at_256 rfl rfl ?_
       refine w_goto (pc' := 261) X1342 hx hby at_257 (by decide) ?_
       exact Rch.retVW X1342 hx hS1333 (by rw [K1342]; exact hk1333) Bd.returns rfl (Or.inl ⟨rfl, by simp, _, rfl⟩) (hb hby at_261) (by rw [K1342]; exact ⟨rfl, (own_Fr Z0 N1343), Kp1340, own_chv (s := s) (vm0 := T1333.vm) hZ1333 hEL X1342.warmed IQ1333⟩) (by decide) (by decide)

set_option maxRecDepth 65536 in
set_option maxHeartbeats 40000000 in
theorem comes_1 {Post : Tables → Env → Array Value → State → Outcome → State → Prop} (hpost : ∀ tb e args s v u, (limb_1_1.after args s (.returned v) u = true ∧ limb_1_2.after args s (.returned v) u = true ∧ True) → ReturnedEndW s (.returned v) u (Jvm.fieldLocs frame_1_writes args s ++ Jvm.arrayLocs frame_1_arrays args s ++ Jvm.staticLocs frame_1_statics s) 24 3200 → Post tb e args s (.returned v) u) :
    ArmFor flags0 classFile x code maxLocals ret World_1 tables_1 room_1 Calls_1 rest_1 Pre_1 Post := by
  intro l hfl _ _ p e ha hc hk s m args below hf hA hF happ hP
  obtain ⟨hcalls, hrest, hpre⟩ := hP
  obtain ⟨-, -, -, hnamed, -, -, -, hat⟩ := (Spec.applies_iff hf).mp happ
  obtain ⟨hg, hn⟩ := and_e (Cond.before_iff.mp (show (Jvm.Cond.and given_1 narrow_1).before args s = true from hpre))
  obtain ⟨hcnt, hgs⟩ := and_e hg
  obtain ⟨w0, w1, w2, w3, w4, w5, rfl⟩ : ∃ w0 w1 w2 w3 w4 w5, args = #[w0, w1, w2, w3, w4, w5] := by
    have hs : args.size = 6 := by simpa [Cond.value, given_1] using hcnt
    obtain ⟨L⟩ := args
    match L, hs with
    | [w0, w1, w2, w3, w4, w5], _ => exact ⟨w0, w1, w2, w3, w4, w5, rfl⟩
  have hw := fun d (hd : d ∈ tables_1) => atoms_spec (ws := Jvm.Cond.code x code maxLocals ret :: tables_1) hat d (List.mem_cons_of_mem _ hd)
  obtain ⟨hsets, hown0⟩ := atoms_of _ (rest_1_c_eq ▸ (show rest_1_c.before _ s = true from hrest))
  have hfit : Fit s := fun {y c} hc i hi => by
    obtain ⟨ha, rfl⟩ := Array.getElem?_eq_some_iff.mp hc
    have q := List.all_eq_true.mp ((Array.all_eq_true_iff_forall_mem.mp hF) _ (Array.getElem_mem ha)) i (List.mem_range.mpr hi)
    simpa [Array.getElem?_eq_getElem hi] using q
  obtain ⟨g0, gr0⟩ := and_e hgs
  obtain ⟨i0, q0⟩ := is_v g0
  obtain rfl : w0 = (.int i0) := Option.some.inj q0
  obtain ⟨g1, gr1⟩ := and_e gr0
  obtain ⟨i1, q1⟩ := is_v g1
  obtain rfl : w1 = (.int i1) := Option.some.inj q1
  obtain ⟨g2, gr2⟩ := and_e gr1
  obtain ⟨i2, q2⟩ := is_v g2
  obtain rfl : w2 = (.int i2) := Option.some.inj q2
  obtain ⟨g3, gr3⟩ := and_e gr2
  obtain ⟨i3, q3⟩ := is_v g3
  obtain rfl : w3 = (.int i3) := Option.some.inj q3
  obtain ⟨g4, gr4⟩ := and_e gr3
  obtain ⟨i4, q4⟩ := is_v g4
  obtain rfl : w4 = (.int i4) := Option.some.inj q4
  obtain ⟨i5, q5⟩ := is_v gr4
  obtain rfl : w5 = (.int i5) := Option.some.inj q5
  obtain ⟨G1, eG⟩ := is_v (Cond.before_iff.mp (hsets _ (List.mem_of_getElem? (i := 1) rfl)))
  have O2 := Sta.start eG (Or.inl (hsets _ (List.mem_of_getElem? (i := 0) rfl)))
  have P5 : ¬ (G1 = (0 : Int32)) := gotF (Cond.eq_ints eG (Term.int_eval (0))) (not_v (Cond.before_iff.mp (hsets _ (List.mem_of_getElem? (i := 2) rfl))))
  obtain ⟨G3, eG3, rG3⟩ := isR_v (Cond.before_iff.mp (hsets _ (List.mem_of_getElem? (i := 8) rfl)))
  have O4 := Sta.start eG3 (Or.inl (hsets _ (List.mem_of_getElem? (i := 7) rfl)))
  obtain ⟨n, o, h1, h2, h3, _, L, rfl, ⟨rfl, N, -⟩, hq⟩ := rm_law l s _ hw tables_1 G1 G3 i0 i1 i2 i3 i4 i5 s.heap s.heap.size (Nat.le_refl _) O2 P5 O4 rG3 (OldL.start s) p e ha hc hk s m _ below hf ((Spec.applies_iff_loose hf).mp happ).1 ⟨rfl, State.Warmed39.refl s, rfl, CHv.start (own_EW hw) hcalls.1 (hsets _ (List.mem_of_getElem? (i := 2) rfl)) (wi hw 11 rfl) (wi hw 10 rfl)⟩ trivial
  refine ⟨n, _, h1, h2, h3, hpost _ _ _ _ _ _ ⟨Cond.after_iff.mpr rfl, Cond.after_iff.mpr (eq_i res_at (Term.int_eval (1)) rfl), trivial⟩ ⟨hq.1, hq.2.1, hq.2.2.1, (hq.2.2.2.sift fun y hy => Or.inr (N y hy)).mono (by decide) (by decide)⟩⟩
theorem main_1_1 : Claimed_1_1 := comes_1 fun _ _ _ _ _ _ h hF => ⟨h.1, hF⟩
theorem main_1_2 : Claimed_1_2 := comes_1 fun _ _ _ _ _ _ h hF => ⟨h.2.1, hF⟩
end Jvm.Pilot.@@N@@
namespace Jvm.Pilot.@@N@@
open Jvm Jvm.ClassFile Sem Op Lib Jvm.Free Jvm.Stand Jvm.Pilot.@@N@@.Jvm.D
/-! MADE BY PROGRAM (witnessworld.py) out of the Statement's table words and the real class files: 23 classes; the members and pool entries that the words name. The judged class is class 1, her method 3. -/
namespace start1
open Jvm.ClassFile
def u (s : String) : CpInfo := .utf8 (stringToUtf16 s)
/-- a pool by its gaps: so many unusable entries, then the entry; so many at the end -/
def gap : Nat → List CpInfo → List CpInfo
  | 0, r => r
  | n + 1, r => .unusable :: gap n r
def poolList (es : List (Nat × CpInfo)) (last : Nat) : List CpInfo := es.foldr (fun e r => gap e.1 (e.2 :: r)) (gap last [])
def pool (es : List (Nat × CpInfo)) (last : Nat) : Array CpInfo := ⟨poolList es last⟩
def fileOf (pool : Array CpInfo) (this : Nat) (attrs : Array Attribute := #[]) (ms : Array MethodInfo := #[]) (fl : Nat := 33) (sup : Nat := 0) (ifs : Array Nat := #[]) (fds : Array FieldInfo := #[]) : ClassFile where
  minorVersion := 0
  majorVersion := 65
  constantPool := pool
  accessFlags := fl
  thisClass := this
  superClass := sup
  interfaces := ifs
  fields := fds
  methods := ms
  attributes := attrs
def plain (name : String) (sup : Option ClassId) : Class where
  name := name
  kind := .ordinary
  loader := none
  accessFlags := 33
  super := sup
  interfaces := #[]
  cf := none
  fields := #[]
  methods := #[]
  instanceTypes := #[]
  staticTypes := #[]
  resolved := #[]
  callSites := []
  init := .initialized
  statics := none
  mirror := none

def pool0 : Array CpInfo := pool [(5, u "<init>"), (0, u "()V"), (1, .class_ 10), (1, u "java/lang/Object")] 113

def k0c0 : Code := { maxStack := 0, maxLocals := 1, code := object_method_1_code, exceptionTable := #[], attributes := #[] }
def k0m0 : Method := { name := "<init>", desc := "()V", sig := { parameters := [], returnType := none }, accessFlags := 1, code := some k0c0 }
/-- java/lang/Object -/
def k0 : Class := { plain "java/lang/Object" none with
  accessFlags := 33
  interfaces := #[]
  cf := some (fileOf pool0 8 #[] #[{ accessFlags := 1, nameIndex := 5, descriptorIndex := 6, attributes := #[] }] 33 0 #[] #[])
  fields := #[]
  methods := #[k0m0]
  instanceTypes := #[]
  staticTypes := #[]
  resolved := Array.replicate 124 none
  statics := none }

def pool1 : Array CpInfo := pool [(2, .class_ 4), (1, u "java/lang/Object"), (0, u "<init>"), (0, u "()V"), (0, .string 8), (0, u ""), (0, .class_ 10), (0, u "java/lang/String"), (0, .methodref 9 12), (0, .nameAndType 5 13), (0, u "([C)V"), (0, .integer 2147483647), (0, .methodref 16 17), (0, .class_ 18), (0, .nameAndType 19 20), (0, u "com/example/fascicle/fascicle/EntriesDirectoryOfPinLaw"), (0, u "ch"), (0, u "(I)C"), (0, .methodref 16 22), (0, .nameAndType 23 24), (0, u "mk"), (0, u "(ICCCCC)Ljava/lang/String;"), (0, .methodref 26 27), (0, .class_ 28), (0, .nameAndType 29 30), (0, u "com/example/fascicle/fascicle/Entries"), (0, u "directoryOf"), (0, u "(Ljava/lang/String;)Ljava/lang/String;"), (0, .methodref 9 32), (0, .nameAndType 33 34), (0, u "length"), (0, u "()I"), (0, .methodref 9 36), (0, .nameAndType 37 20), (0, u "charAt"), (3, u "law"), (0, u "(IIIIII)Z")] 2

def k1m0 : Method := { name := "<init>", desc := "()V", sig := { parameters := [], returnType := none }, accessFlags := 1, code := none }
def k1c1 : Code := { maxStack := 2, maxLocals := 1, code := method_2_code, exceptionTable := #[], attributes := #[] }
def k1m1 : Method := { name := "ch", desc := "(I)C", sig := { parameters := [.int], returnType := some .char }, accessFlags := 10, code := some k1c1 }
def k1c2 : Code := { maxStack := 6, maxLocals := 6, code := method_3_code, exceptionTable := #[], attributes := #[] }
def k1m2 : Method := { name := "mk", desc := "(ICCCCC)Ljava/lang/String;", sig := { parameters := [.int, .char, .char, .char, .char, .char], returnType := some (.object "java/lang/String") }, accessFlags := 10, code := some k1c2 }
def k1c3 : Code := { maxStack := 6, maxLocals := 16, code := code, exceptionTable := #[], attributes := #[] }
def k1m3 : Method := { name := "law", desc := "(IIIIII)Z", sig := { parameters := [.int, .int, .int, .int, .int, .int], returnType := some .boolean }, accessFlags := 9, code := some k1c3 }
/-- com/example/fascicle/fascicle/EntriesDirectoryOfPinLaw -/
def k1 : Class := { plain "com/example/fascicle/fascicle/EntriesDirectoryOfPinLaw" (some 0) with
  accessFlags := 49
  interfaces := #[]
  cf := some (fileOf pool1 16 #[] #[{ accessFlags := 1, nameIndex := 5, descriptorIndex := 6, attributes := #[] }, { accessFlags := 10, nameIndex := 19, descriptorIndex := 20, attributes := #[] }, { accessFlags := 10, nameIndex := 23, descriptorIndex := 24, attributes := #[] }, { accessFlags := 9, nameIndex := 41, descriptorIndex := 42, attributes := #[] }] 49 2 #[] #[])
  fields := #[]
  methods := #[k1m0, k1m1, k1m2, k1m3]
  instanceTypes := #[]
  staticTypes := #[]
  resolved := Array.replicate 45 none
  statics := none }

def pool2 : Array CpInfo := pool [(1, .class_ 2), (0, u "java/io/Serializable"), (0, .class_ 4), (0, u "java/lang/Object")] 2

/-- java/io/Serializable -/
def k2 : Class := { plain "java/io/Serializable" (some 0) with
  accessFlags := 1537
  interfaces := #[]
  cf := some (fileOf pool2 1 #[] #[] 1537 3 #[] #[])
  fields := #[]
  methods := #[]
  instanceTypes := #[]
  staticTypes := #[]
  resolved := Array.replicate 7 none
  statics := none }

def pool3 : Array CpInfo := pool [(1, .class_ 2), (0, u "java/lang/Comparable"), (0, .class_ 4), (0, u "java/lang/Object")] 7

/-- java/lang/Comparable -/
def k3 : Class := { plain "java/lang/Comparable" (some 0) with
  accessFlags := 1537
  interfaces := #[]
  cf := some (fileOf pool3 1 #[] #[] 1537 3 #[] #[])
  fields := #[]
  methods := #[]
  instanceTypes := #[]
  staticTypes := #[]
  resolved := Array.replicate 12 none
  statics := none }

def pool4 : Array CpInfo := pool [(2, .class_ 4), (1, u "java/lang/CharSequence"), (42, .class_ 48), (0, u "java/lang/CharSequence$1CodePointIterator"), (10, .class_ 60), (0, u "java/lang/CharSequence$1CharIterator"), (5, .class_ 67), (0, u "java/lang/Object")] 63

/-- java/lang/CharSequence -/
def k4 : Class := { plain "java/lang/CharSequence" (some 0) with
  accessFlags := 1537
  interfaces := #[]
  cf := some (fileOf pool4 2 #[.nestMembers #[47, 59]] #[] 1537 66 #[] #[])
  fields := #[]
  methods := #[]
  instanceTypes := #[]
  staticTypes := #[]
  resolved := Array.replicate 131 none
  statics := none }

def pool5 : Array CpInfo := pool [(1, .class_ 2), (0, u "java/lang/constant/Constable"), (0, .class_ 4), (0, u "java/lang/Object")] 6

/-- java/lang/constant/Constable -/
def k5 : Class := { plain "java/lang/constant/Constable" (some 0) with
  accessFlags := 1537
  interfaces := #[]
  cf := some (fileOf pool5 1 #[] #[] 1537 3 #[] #[])
  fields := #[]
  methods := #[]
  instanceTypes := #[]
  staticTypes := #[]
  resolved := Array.replicate 11 none
  statics := none }

def pool6 : Array CpInfo := pool [(1, .class_ 2), (0, u "java/lang/constant/ConstantDesc"), (0, .class_ 4), (0, u "java/lang/Object")] 32

/-- java/lang/constant/ConstantDesc -/
def k6 : Class := { plain "java/lang/constant/ConstantDesc" (some 0) with
  accessFlags := 1537
  interfaces := #[]
  cf := some (fileOf pool6 1 #[] #[] 1537 3 #[] #[])
  fields := #[]
  methods := #[]
  instanceTypes := #[]
  staticTypes := #[]
  resolved := Array.replicate 37 none
  statics := none }

def pool7 : Array CpInfo := pool [(1, .methodref 2 3), (0, .class_ 4), (0, .nameAndType 5 6), (0, u "java/lang/Object"), (0, u "<init>"), (0, u "()V"), (2, .fieldref 10 11), (0, .class_ 12), (0, .nameAndType 13 14), (0, u "java/lang/String"), (0, u "value"), (0, u "[B"), (0, .fieldref 10 16), (0, .nameAndType 17 18), (0, u "coder"), (0, u "B"), (2, u "hash"), (0, u "I"), (2, u "hashIsZero"), (0, u "Z"), (0, .methodref 10 28), (0, .nameAndType 5 29), (0, u "([CIILjava/lang/Void;)V"), (8, .fieldref 10 39), (0, .nameAndType 40 26), (0, u "COMPACT_STRINGS"), (1, .class_ 44), (1, u "java/lang/StringUTF16"), (0, u "compress"), (1, .methodref 42 48), (0, .nameAndType 49 50), (0, u "coderFromArrayLen"), (0, u "([BI)B"), (46, u "([BII)I"), (9, .class_ 109), (1, u "java/lang/StringLatin1"), (32, u "()Z"), (34, .methodref 42 178), (0, .nameAndType 45 179), (0, u "([CII)[B"), (31, u "([BB)V"), (122, u "()I"), (0, .methodref 10 336), (0, .nameAndType 17 337), (0, u "()B"), (25, u "([BI)C"), (27, u "(II)V"), (35, u "(I)C"), (64, .methodref 10 493), (0, .nameAndType 494 142), (0, u "isLatin1"), (0, .methodref 107 496), (0, .nameAndType 497 363), (0, u "charAt"), (3, u "checkIndex"), (3, .methodref 10 506), (0, .nameAndType 507 334), (0, u "length"), (5, u "checkFromToIndex"), (7, .methodref 10 522), (0, .nameAndType 523 524), (0, u "checkBoundsBeginEnd"), (0, u "(III)V"), (50, .class_ 576), (0, u "java/lang/CharSequence"), (22, u "CASE_INSENSITIVE_ORDER"), (0, u "Ljava/util/Comparator;"), (35, u "(II)I"), (4, .methodref 10 642), (0, .nameAndType 643 636), (0, u "lastIndexOf"), (0, .methodref 107 645), (0, .nameAndType 643 97), (37, u "substring"), (0, u "(II)Ljava/lang/String;"), (0, .methodref 107 686), (0, .nameAndType 687 688), (0, u "newString"), (0, u "([BII)Ljava/lang/String;"), (76, u "(I)I"), (244, u "([C)V"), (42, .fieldref 1054 1055), (0, .class_ 1056), (0, .nameAndType 1057 1058), (0, u "jdk/internal/util/Preconditions"), (0, u "SIOOBE_FORMATTER"), (0, u "Ljava/util/function/BiFunction;"), (0, .methodref 1054 1060), (0, .nameAndType 501 1061), (0, u "(IILjava/util/function/BiFunction;)I"), (0, .methodref 1054 1063), (0, .nameAndType 513 1064), (0, u "(IIILjava/util/function/BiFunction;)I"), (36, u "serialPersistentFields"), (0, u "[Ljava/io/ObjectStreamField;"), (0, .class_ 1104), (0, u "java/lang/String$CaseInsensitiveComparator"), (1, .class_ 1107), (0, u "java/io/Serializable"), (0, .class_ 1109), (0, u "java/lang/Comparable"), (0, .class_ 1111), (0, u "java/lang/constant/Constable"), (0, .class_ 1113), (0, u "java/lang/constant/ConstantDesc"), (2, u "serialVersionUID"), (0, u "J"), (3, u "REPL"), (0, u "C"), (2, u "LATIN1"), (1, u "UTF16")] 323

def k7m0 : Method := { name := "<init>", desc := "()V", sig := { parameters := [], returnType := none }, accessFlags := 1, code := none }
def k7c1 : Code := { maxStack := 5, maxLocals := 2, code := jdk_42_method_3_code, exceptionTable := #[], attributes := #[] }
def k7m1 : Method := { name := "<init>", desc := "([C)V", sig := { parameters := [(.array .char)], returnType := none }, accessFlags := 1, code := some k7c1 }
def k7c2 : Code := { maxStack := 2, maxLocals := 1, code := jdk_42_method_54_code, exceptionTable := #[], attributes := #[] }
def k7m2 : Method := { name := "length", desc := "()I", sig := { parameters := [], returnType := some .int }, accessFlags := 1, code := some k7c2 }
def k7c3 : Code := { maxStack := 2, maxLocals := 2, code := jdk_42_method_56_code, exceptionTable := #[], attributes := #[] }
def k7m3 : Method := { name := "charAt", desc := "(I)C", sig := { parameters := [.int], returnType := some .char }, accessFlags := 1, code := some k7c3 }
def k7c4 : Code := { maxStack := 4, maxLocals := 2, code := jdk_42_method_82_code, exceptionTable := #[], attributes := #[] }
def k7m4 : Method := { name := "lastIndexOf", desc := "(I)I", sig := { parameters := [.int], returnType := some .int }, accessFlags := 1, code := some k7c4 }
def k7c5 : Code := { maxStack := 3, maxLocals := 3, code := jdk_42_method_83_code, exceptionTable := #[], attributes := #[] }
def k7m5 : Method := { name := "lastIndexOf", desc := "(II)I", sig := { parameters := [.int, .int], returnType := some .int }, accessFlags := 1, code := some k7c5 }
def k7c6 : Code := { maxStack := 3, maxLocals := 5, code := jdk_42_method_92_code, exceptionTable := #[], attributes := #[] }
def k7m6 : Method := { name := "substring", desc := "(II)Ljava/lang/String;", sig := { parameters := [.int, .int], returnType := some (.object "java/lang/String") }, accessFlags := 1, code := some k7c6 }
def k7c7 : Code := { maxStack := 4, maxLocals := 6, code := jdk_42_method_149_code, exceptionTable := #[], attributes := #[] }
def k7m7 : Method := { name := "<init>", desc := "([CIILjava/lang/Void;)V", sig := { parameters := [(.array .char), .int, .int, (.object "java/lang/Void")], returnType := none }, accessFlags := 2, code := some k7c7 }
def k7c8 : Code := { maxStack := 2, maxLocals := 3, code := jdk_42_method_151_code, exceptionTable := #[], attributes := #[] }
def k7m8 : Method := { name := "<init>", desc := "([BB)V", sig := { parameters := [(.array .byte), .byte], returnType := none }, accessFlags := 0, code := some k7c8 }
def k7c9 : Code := { maxStack := 1, maxLocals := 1, code := jdk_42_method_152_code, exceptionTable := #[], attributes := #[] }
def k7m9 : Method := { name := "coder", desc := "()B", sig := { parameters := [], returnType := some .byte }, accessFlags := 0, code := some k7c9 }
def k7c10 : Code := { maxStack := 1, maxLocals := 1, code := jdk_42_method_154_code, exceptionTable := #[], attributes := #[] }
def k7m10 : Method := { name := "isLatin1", desc := "()Z", sig := { parameters := [], returnType := some .boolean }, accessFlags := 0, code := some k7c10 }
def k7c11 : Code := { maxStack := 3, maxLocals := 2, code := jdk_42_method_155_code, exceptionTable := #[], attributes := #[] }
def k7m11 : Method := { name := "checkIndex", desc := "(II)V", sig := { parameters := [.int, .int], returnType := none }, accessFlags := 8, code := some k7c11 }
def k7c12 : Code := { maxStack := 4, maxLocals := 3, code := jdk_42_method_158_code, exceptionTable := #[], attributes := #[] }
def k7m12 : Method := { name := "checkBoundsBeginEnd", desc := "(III)V", sig := { parameters := [.int, .int, .int], returnType := none }, accessFlags := 8, code := some k7c12 }
/-- java/lang/String -/
def k7 : Class := { plain "java/lang/String" (some 0) with
  accessFlags := 49
  interfaces := #[2, 3, 4, 5, 6]
  cf := some (fileOf pool7 10 #[.nestMembers #[1103]] #[{ accessFlags := 1, nameIndex := 5, descriptorIndex := 6, attributes := #[] }, { accessFlags := 1, nameIndex := 5, descriptorIndex := 1010, attributes := #[] }, { accessFlags := 1, nameIndex := 507, descriptorIndex := 334, attributes := #[] }, { accessFlags := 1, nameIndex := 497, descriptorIndex := 427, attributes := #[] }, { accessFlags := 1, nameIndex := 643, descriptorIndex := 765, attributes := #[] }, { accessFlags := 1, nameIndex := 643, descriptorIndex := 636, attributes := #[] }, { accessFlags := 1, nameIndex := 683, descriptorIndex := 684, attributes := #[] }, { accessFlags := 2, nameIndex := 5, descriptorIndex := 29, attributes := #[] }, { accessFlags := 0, nameIndex := 5, descriptorIndex := 211, attributes := #[] }, { accessFlags := 0, nameIndex := 17, descriptorIndex := 337, attributes := #[] }, { accessFlags := 0, nameIndex := 494, descriptorIndex := 142, attributes := #[] }, { accessFlags := 8, nameIndex := 501, descriptorIndex := 391, attributes := #[] }, { accessFlags := 8, nameIndex := 523, descriptorIndex := 524, attributes := #[] }] 49 2 #[1106, 1108, 575, 1110, 1112] #[{ accessFlags := 18, nameIndex := 13, descriptorIndex := 14, attributes := #[] }, { accessFlags := 18, nameIndex := 17, descriptorIndex := 18, attributes := #[] }, { accessFlags := 2, nameIndex := 21, descriptorIndex := 22, attributes := #[] }, { accessFlags := 2, nameIndex := 25, descriptorIndex := 26, attributes := #[] }, { accessFlags := 26, nameIndex := 1116, descriptorIndex := 1117, attributes := #[] }, { accessFlags := 24, nameIndex := 40, descriptorIndex := 26, attributes := #[] }, { accessFlags := 26, nameIndex := 1101, descriptorIndex := 1102, attributes := #[] }, { accessFlags := 26, nameIndex := 1121, descriptorIndex := 1122, attributes := #[] }, { accessFlags := 25, nameIndex := 599, descriptorIndex := 600, attributes := #[] }, { accessFlags := 24, nameIndex := 1125, descriptorIndex := 18, attributes := #[] }, { accessFlags := 24, nameIndex := 1127, descriptorIndex := 18, attributes := #[] }])
  fields := #[{ name := "value", type := (.array .byte), accessFlags := 18, slot := 0, constantValue := 0 }, { name := "coder", type := .byte, accessFlags := 18, slot := 1, constantValue := 0 }, { name := "hash", type := .int, accessFlags := 2, slot := 2, constantValue := 0 }, { name := "hashIsZero", type := .boolean, accessFlags := 2, slot := 3, constantValue := 0 }, { name := "serialVersionUID", type := .long, accessFlags := 26, slot := 0, constantValue := 0 }, { name := "COMPACT_STRINGS", type := .boolean, accessFlags := 24, slot := 1, constantValue := 0 }, { name := "serialPersistentFields", type := (.array (.object "java/io/ObjectStreamField")), accessFlags := 26, slot := 2, constantValue := 0 }, { name := "REPL", type := .char, accessFlags := 26, slot := 3, constantValue := 0 }, { name := "CASE_INSENSITIVE_ORDER", type := (.object "java/util/Comparator"), accessFlags := 25, slot := 4, constantValue := 0 }, { name := "LATIN1", type := .byte, accessFlags := 24, slot := 5, constantValue := 0 }, { name := "UTF16", type := .byte, accessFlags := 24, slot := 6, constantValue := 0 }]
  methods := #[k7m0, k7m1, k7m2, k7m3, k7m4, k7m5, k7m6, k7m7, k7m8, k7m9, k7m10, k7m11, k7m12]
  instanceTypes := #[(.array .byte), .byte, .int, .boolean]
  staticTypes := #[.long, .boolean, (.array (.object "java/io/ObjectStreamField")), .char, (.object "java/util/Comparator"), .byte, .byte]
  resolved := Array.replicate 1451 none
  statics := some 0 }

def pool8 : Array CpInfo := pool [(2, .class_ 4), (1, u "java/lang/Object"), (6, .class_ 13), (1, u "com/example/fascicle/fascicle/Entries"), (0, u "described"), (0, u "Ljava/util/Map;"), (2, u "contents"), (0, u "Lcom/example/fascicle/fascicle/Bundle$Contents;"), (2, u "onDisk"), (4, u "indexDirectories"), (9, u "Ljava/util/Set;"), (28, u "unread"), (7, u "byDirectory"), (21, .class_ 97), (0, u "com/example/fascicle/fascicle/Entries$Entry"), (20, .class_ 119), (0, u "com/example/fascicle/fascicle/Entries$Kind"), (33, .class_ 154), (0, u "java/lang/String"), (26, u "directoryOf"), (0, u "(Ljava/lang/String;)Ljava/lang/String;"), (33, .class_ 217), (0, u "com/example/fascicle/fascicle/Entries$Described"), (8, u "OUTER_SLASHES"), (0, u "Ljava/util/regex/Pattern;"), (6, .string 235), (0, u ""), (14, u "substring"), (1, .methodref 153 253), (0, .nameAndType 254 255), (0, u "lastIndexOf"), (0, u "(I)I"), (0, .methodref 153 257), (0, .nameAndType 250 258), (0, u "(II)Ljava/lang/String;"), (101, u "NAME"), (0, u "Ljava/lang/String;"), (1, u "PATH"), (0, u "SIZE"), (1, u "MIME_TYPE"), (2, u "MD5")] 111

def k8c0 : Code := { maxStack := 3, maxLocals := 2, code := prog_32_method_14_code, exceptionTable := #[], attributes := #[] }
def k8m0 : Method := { name := "directoryOf", desc := "(Ljava/lang/String;)Ljava/lang/String;", sig := { parameters := [(.object "java/lang/String")], returnType := some (.object "java/lang/String") }, accessFlags := 8, code := some k8c0 }
/-- com/example/fascicle/fascicle/Entries -/
def k8 : Class := { plain "com/example/fascicle/fascicle/Entries" (some 0) with
  accessFlags := 48
  interfaces := #[]
  cf := some (fileOf pool8 11 #[.nestMembers #[216, 96, 118]] #[{ accessFlags := 8, nameIndex := 181, descriptorIndex := 182, attributes := #[] }] 48 2 #[] #[{ accessFlags := 24, nameIndex := 360, descriptorIndex := 361, attributes := #[] }, { accessFlags := 24, nameIndex := 363, descriptorIndex := 361, attributes := #[] }, { accessFlags := 24, nameIndex := 364, descriptorIndex := 361, attributes := #[] }, { accessFlags := 24, nameIndex := 366, descriptorIndex := 361, attributes := #[] }, { accessFlags := 24, nameIndex := 369, descriptorIndex := 361, attributes := #[] }, { accessFlags := 26, nameIndex := 226, descriptorIndex := 227, attributes := #[] }, { accessFlags := 18, nameIndex := 18, descriptorIndex := 19, attributes := #[] }, { accessFlags := 18, nameIndex := 22, descriptorIndex := 15, attributes := #[] }, { accessFlags := 18, nameIndex := 27, descriptorIndex := 37, attributes := #[] }, { accessFlags := 18, nameIndex := 66, descriptorIndex := 37, attributes := #[] }, { accessFlags := 18, nameIndex := 74, descriptorIndex := 15, attributes := #[] }, { accessFlags := 18, nameIndex := 14, descriptorIndex := 15, attributes := #[] }])
  fields := #[{ name := "NAME", type := (.object "java/lang/String"), accessFlags := 24, slot := 0, constantValue := 0 }, { name := "PATH", type := (.object "java/lang/String"), accessFlags := 24, slot := 1, constantValue := 0 }, { name := "SIZE", type := (.object "java/lang/String"), accessFlags := 24, slot := 2, constantValue := 0 }, { name := "MIME_TYPE", type := (.object "java/lang/String"), accessFlags := 24, slot := 3, constantValue := 0 }, { name := "MD5", type := (.object "java/lang/String"), accessFlags := 24, slot := 4, constantValue := 0 }, { name := "OUTER_SLASHES", type := (.object "java/util/regex/Pattern"), accessFlags := 26, slot := 5, constantValue := 0 }, { name := "contents", type := (.object "com/example/fascicle/fascicle/Bundle$Contents"), accessFlags := 18, slot := 0, constantValue := 0 }, { name := "onDisk", type := (.object "java/util/Map"), accessFlags := 18, slot := 1, constantValue := 0 }, { name := "indexDirectories", type := (.object "java/util/Set"), accessFlags := 18, slot := 2, constantValue := 0 }, { name := "unread", type := (.object "java/util/Set"), accessFlags := 18, slot := 3, constantValue := 0 }, { name := "byDirectory", type := (.object "java/util/Map"), accessFlags := 18, slot := 4, constantValue := 0 }, { name := "described", type := (.object "java/util/Map"), accessFlags := 18, slot := 5, constantValue := 0 }]
  methods := #[k8m0]
  instanceTypes := #[(.object "com/example/fascicle/fascicle/Bundle$Contents"), (.object "java/util/Map"), (.object "java/util/Set"), (.object "java/util/Set"), (.object "java/util/Map"), (.object "java/util/Map")]
  staticTypes := #[(.object "java/lang/String"), (.object "java/lang/String"), (.object "java/lang/String"), (.object "java/lang/String"), (.object "java/lang/String"), (.object "java/util/regex/Pattern")]
  resolved := Array.replicate 481 none
  statics := none }

def pool9 : Array CpInfo := pool [(1, .class_ 2), (0, u "java/lang/String"), (1, .class_ 6), (1, u "java/lang/Object"), (0, u "<init>"), (0, u "()V"), (0, .methodref 1 10), (0, .nameAndType 11 12), (0, u "checkIndex"), (0, u "(II)V"), (1, .class_ 16), (1, u "java/lang/StringLatin1"), (21, .methodref 39 40), (0, .class_ 41), (0, .nameAndType 42 43), (0, u "java/lang/Math"), (0, u "min"), (0, u "(II)I"), (9, u "([BI)C"), (34, .methodref 14 89), (0, .nameAndType 90 91), (0, u "canEncode"), (0, u "(I)Z"), (20, .methodref 1 113), (0, .nameAndType 7 114), (0, u "([BB)V"), (6, u "$assertionsDisabled"), (0, u "Z"), (8, .class_ 133), (1, u "java/util/Arrays"), (17, .string 152), (0, u ""), (43, u "newString"), (0, u "([BII)Ljava/lang/String;"), (23, .class_ 223), (1, u "java/lang/StringLatin1$LinesSpliterator"), (8, .methodref 131 233), (0, .nameAndType 234 235), (0, u "copyOfRange"), (0, u "([BII)[B"), (16, u "charAt"), (8, u "([BII)I"), (47, u "lastIndexOf"), (80, .class_ 391), (0, u "java/lang/StringLatin1$CharsSpliterator")] 3

def k9m0 : Method := { name := "<init>", desc := "()V", sig := { parameters := [], returnType := none }, accessFlags := 0, code := none }
def k9c1 : Code := { maxStack := 2, maxLocals := 2, code := jdk_43_method_2_code, exceptionTable := #[], attributes := #[] }
def k9m1 : Method := { name := "charAt", desc := "([BI)C", sig := { parameters := [(.array .byte), .int], returnType := some .char }, accessFlags := 9, code := some k9c1 }
def k9c2 : Code := { maxStack := 2, maxLocals := 1, code := jdk_43_method_4_code, exceptionTable := #[], attributes := #[] }
def k9m2 : Method := { name := "canEncode", desc := "(I)Z", sig := { parameters := [.int], returnType := some .boolean }, accessFlags := 9, code := some k9c2 }
def k9c3 : Code := { maxStack := 3, maxLocals := 4, code := jdk_43_method_27_code, exceptionTable := #[], attributes := #[] }
def k9m3 : Method := { name := "lastIndexOf", desc := "([BII)I", sig := { parameters := [(.array .byte), .int, .int], returnType := some .int }, accessFlags := 9, code := some k9c3 }
def k9c4 : Code := { maxStack := 6, maxLocals := 3, code := jdk_43_method_47_code, exceptionTable := #[], attributes := #[] }
def k9m4 : Method := { name := "newString", desc := "([BII)Ljava/lang/String;", sig := { parameters := [(.array .byte), .int, .int], returnType := some (.object "java/lang/String") }, accessFlags := 9, code := some k9c4 }
/-- java/lang/StringLatin1 -/
def k9 : Class := { plain "java/lang/StringLatin1" (some 0) with
  accessFlags := 48
  interfaces := #[]
  cf := some (fileOf pool9 14 #[.nestMembers #[390, 221]] #[{ accessFlags := 0, nameIndex := 7, descriptorIndex := 8, attributes := #[] }, { accessFlags := 9, nameIndex := 252, descriptorIndex := 53, attributes := #[] }, { accessFlags := 9, nameIndex := 90, descriptorIndex := 91, attributes := #[] }, { accessFlags := 9, nameIndex := 309, descriptorIndex := 261, attributes := #[] }, { accessFlags := 9, nameIndex := 196, descriptorIndex := 197, attributes := #[] }] 48 4 #[] #[{ accessFlags := 4120, nameIndex := 121, descriptorIndex := 122, attributes := #[] }])
  fields := #[{ name := "$assertionsDisabled", type := .boolean, accessFlags := 4120, slot := 0, constantValue := 0 }]
  methods := #[k9m0, k9m1, k9m2, k9m3, k9m4]
  instanceTypes := #[]
  staticTypes := #[.boolean]
  resolved := Array.replicate 395 none
  statics := none }

def pool10 : Array CpInfo := pool [(1, .class_ 2), (0, u "java/lang/Math"), (1, .class_ 6), (1, u "java/lang/Object"), (0, u "<init>"), (0, u "()V"), (89, .class_ 100), (1, u "java/lang/Math$RandomNumberGeneratorHolder"), (71, u "negativeZeroFloatBits"), (0, u "J"), (2, u "negativeZeroDoubleBits"), (24, u "min"), (43, u "$assertionsDisabled"), (0, u "Z"), (88, u "(II)I"), (2, u "twoToTheDoubleScaleDown"), (0, u "D"), (4, u "twoToTheDoubleScaleUp"), (9, u "E"), (3, u "PI"), (2, u "TAU"), (2, u "DEGREES_TO_RADIANS"), (0, u "RADIANS_TO_DEGREES")] 94

def k10m0 : Method := { name := "<init>", desc := "()V", sig := { parameters := [], returnType := none }, accessFlags := 2, code := none }
def k10c1 : Code := { maxStack := 2, maxLocals := 2, code := jdk_29_method_69_code, exceptionTable := #[], attributes := #[] }
def k10m1 : Method := { name := "min", desc := "(II)I", sig := { parameters := [.int, .int], returnType := some .int }, accessFlags := 9, code := some k10c1 }
/-- java/lang/Math -/
def k10 : Class := { plain "java/lang/Math" (some 0) with
  accessFlags := 49
  interfaces := #[]
  cf := some (fileOf pool10 1 #[.nestMembers #[98]] #[{ accessFlags := 2, nameIndex := 7, descriptorIndex := 8, attributes := #[] }, { accessFlags := 9, nameIndex := 201, descriptorIndex := 335, attributes := #[] }] 49 4 #[] #[{ accessFlags := 25, nameIndex := 354, descriptorIndex := 339, attributes := #[] }, { accessFlags := 25, nameIndex := 358, descriptorIndex := 339, attributes := #[] }, { accessFlags := 25, nameIndex := 361, descriptorIndex := 339, attributes := #[] }, { accessFlags := 26, nameIndex := 364, descriptorIndex := 339, attributes := #[] }, { accessFlags := 26, nameIndex := 365, descriptorIndex := 339, attributes := #[] }, { accessFlags := 26, nameIndex := 172, descriptorIndex := 173, attributes := #[] }, { accessFlags := 26, nameIndex := 176, descriptorIndex := 173, attributes := #[] }, { accessFlags := 8, nameIndex := 344, descriptorIndex := 339, attributes := #[] }, { accessFlags := 8, nameIndex := 338, descriptorIndex := 339, attributes := #[] }, { accessFlags := 4120, nameIndex := 245, descriptorIndex := 246, attributes := #[] }])
  fields := #[{ name := "E", type := .double, accessFlags := 25, slot := 0, constantValue := 0 }, { name := "PI", type := .double, accessFlags := 25, slot := 1, constantValue := 0 }, { name := "TAU", type := .double, accessFlags := 25, slot := 2, constantValue := 0 }, { name := "DEGREES_TO_RADIANS", type := .double, accessFlags := 26, slot := 3, constantValue := 0 }, { name := "RADIANS_TO_DEGREES", type := .double, accessFlags := 26, slot := 4, constantValue := 0 }, { name := "negativeZeroFloatBits", type := .long, accessFlags := 26, slot := 5, constantValue := 0 }, { name := "negativeZeroDoubleBits", type := .long, accessFlags := 26, slot := 6, constantValue := 0 }, { name := "twoToTheDoubleScaleUp", type := .double, accessFlags := 8, slot := 7, constantValue := 0 }, { name := "twoToTheDoubleScaleDown", type := .double, accessFlags := 8, slot := 8, constantValue := 0 }, { name := "$assertionsDisabled", type := .boolean, accessFlags := 4120, slot := 9, constantValue := 0 }]
  methods := #[k10m0, k10m1]
  instanceTypes := #[]
  staticTypes := #[.double, .double, .double, .double, .double, .long, .long, .double, .double, .boolean]
  resolved := Array.replicate 460 none
  statics := none }

def pool11 : Array CpInfo := pool [(6, .class_ 8), (1, u "java/lang/Object"), (0, u "<init>"), (0, u "()V"), (1, .class_ 14), (1, u "java/lang/StringUTF16"), (31, u "$assertionsDisabled"), (0, u "Z"), (13, u "HI_BYTE_SHIFT"), (0, u "I"), (2, u "LO_BYTE_SHIFT"), (49, .methodref 12 116), (0, .nameAndType 117 118), (0, u "compress"), (0, u "([CI[BII)I"), (3, u "([CII)[B"), (138, u "coderFromArrayLen"), (0, u "([BI)B"), (106, .class_ 371), (1, u "java/lang/StringUTF16$LinesSpliterator"), (58, u "MAX_LENGTH"), (196, .class_ 628), (0, u "java/lang/StringUTF16$CodePointsSpliterator"), (0, .class_ 630), (0, u "java/lang/StringUTF16$CharsSpliterator")] 4

def k11m0 : Method := { name := "<init>", desc := "()V", sig := { parameters := [], returnType := none }, accessFlags := 0, code := none }
def k11c1 : Code := { maxStack := 2, maxLocals := 2, code := jdk_52_method_15_code, exceptionTable := #[], attributes := #[] }
def k11m1 : Method := { name := "coderFromArrayLen", desc := "([BI)B", sig := { parameters := [(.array .byte), .int], returnType := some .byte }, accessFlags := 8, code := some k11c1 }
def k11c2 : Code := { maxStack := 5, maxLocals := 6, code := jdk_52_method_16_code, exceptionTable := #[], attributes := #[] }
def k11m2 : Method := { name := "compress", desc := "([CII)[B", sig := { parameters := [(.array .char), .int, .int], returnType := some (.array .byte) }, accessFlags := 9, code := some k11c2 }
def k11c3 : Code := { maxStack := 3, maxLocals := 7, code := jdk_52_method_21_code, exceptionTable := #[], attributes := #[] }
def k11m3 : Method := { name := "compress", desc := "([CI[BII)I", sig := { parameters := [(.array .char), .int, (.array .byte), .int, .int], returnType := some .int }, accessFlags := 9, code := some k11c3 }
/-- java/lang/StringUTF16 -/
def k11 : Class := { plain "java/lang/StringUTF16" (some 0) with
  accessFlags := 48
  interfaces := #[]
  cf := some (fileOf pool11 12 #[.nestMembers #[627, 629, 369]] #[{ accessFlags := 0, nameIndex := 9, descriptorIndex := 10, attributes := #[] }, { accessFlags := 8, nameIndex := 261, descriptorIndex := 262, attributes := #[] }, { accessFlags := 9, nameIndex := 117, descriptorIndex := 122, attributes := #[] }, { accessFlags := 9, nameIndex := 117, descriptorIndex := 118, attributes := #[] }] 48 6 #[] #[{ accessFlags := 26, nameIndex := 61, descriptorIndex := 62, attributes := #[] }, { accessFlags := 26, nameIndex := 65, descriptorIndex := 62, attributes := #[] }, { accessFlags := 24, nameIndex := 430, descriptorIndex := 62, attributes := #[] }, { accessFlags := 4120, nameIndex := 46, descriptorIndex := 47, attributes := #[] }])
  fields := #[{ name := "HI_BYTE_SHIFT", type := .int, accessFlags := 26, slot := 0, constantValue := 0 }, { name := "LO_BYTE_SHIFT", type := .int, accessFlags := 26, slot := 1, constantValue := 0 }, { name := "MAX_LENGTH", type := .int, accessFlags := 24, slot := 2, constantValue := 0 }, { name := "$assertionsDisabled", type := .boolean, accessFlags := 4120, slot := 3, constantValue := 0 }]
  methods := #[k11m0, k11m1, k11m2, k11m3]
  instanceTypes := #[]
  staticTypes := #[.int, .int, .int, .boolean]
  resolved := Array.replicate 635 none
  statics := none }

def pool12 : Array CpInfo := pool [(2, .class_ 4), (1, u "java/lang/Object"), (0, u "<init>"), (0, u "()V"), (17, .class_ 26), (1, u "jdk/internal/util/Preconditions"), (6, u "checkIndex"), (13, u "checkFromToIndex"), (7, .class_ 56), (0, u "jdk/internal/util/Preconditions$4"), (57, .class_ 115), (0, u "jdk/internal/util/Preconditions$1"), (7, u "SIOOBE_FORMATTER"), (0, u "Ljava/util/function/BiFunction;"), (0, .class_ 126), (0, u "jdk/internal/util/Preconditions$2"), (3, u "AIOOBE_FORMATTER"), (0, .class_ 132), (0, u "jdk/internal/util/Preconditions$3"), (3, u "IOOBE_FORMATTER"), (41, u "(IILjava/util/function/BiFunction;)I"), (4, u "(IIILjava/util/function/BiFunction;)I")] 10

def k12m0 : Method := { name := "<init>", desc := "()V", sig := { parameters := [], returnType := none }, accessFlags := 1, code := none }
def k12c1 : Code := { maxStack := 3, maxLocals := 3, code := jdk_41_method_11_code, exceptionTable := #[], attributes := #[] }
def k12m1 : Method := { name := "checkIndex", desc := "(IILjava/util/function/BiFunction;)I", sig := { parameters := [.int, .int, (.object "java/util/function/BiFunction")], returnType := some .int }, accessFlags := 9, code := some k12c1 }
def k12c2 : Code := { maxStack := 4, maxLocals := 4, code := jdk_41_method_12_code, exceptionTable := #[], attributes := #[] }
def k12m2 : Method := { name := "checkFromToIndex", desc := "(IIILjava/util/function/BiFunction;)I", sig := { parameters := [.int, .int, .int, (.object "java/util/function/BiFunction")], returnType := some .int }, accessFlags := 9, code := some k12c2 }
/-- jdk/internal/util/Preconditions -/
def k12 : Class := { plain "jdk/internal/util/Preconditions" (some 0) with
  accessFlags := 33
  interfaces := #[]
  cf := some (fileOf pool12 24 #[.nestMembers #[55, 131, 125, 114]] #[{ accessFlags := 1, nameIndex := 5, descriptorIndex := 6, attributes := #[] }, { accessFlags := 9, nameIndex := 33, descriptorIndex := 178, attributes := #[] }, { accessFlags := 9, nameIndex := 47, descriptorIndex := 183, attributes := #[] }] 33 2 #[] #[{ accessFlags := 25, nameIndex := 123, descriptorIndex := 124, attributes := #[] }, { accessFlags := 25, nameIndex := 130, descriptorIndex := 124, attributes := #[] }, { accessFlags := 25, nameIndex := 136, descriptorIndex := 124, attributes := #[] }])
  fields := #[{ name := "SIOOBE_FORMATTER", type := (.object "java/util/function/BiFunction"), accessFlags := 25, slot := 0, constantValue := 0 }, { name := "AIOOBE_FORMATTER", type := (.object "java/util/function/BiFunction"), accessFlags := 25, slot := 1, constantValue := 0 }, { name := "IOOBE_FORMATTER", type := (.object "java/util/function/BiFunction"), accessFlags := 25, slot := 2, constantValue := 0 }]
  methods := #[k12m0, k12m1, k12m2]
  instanceTypes := #[]
  staticTypes := #[(.object "java/util/function/BiFunction"), (.object "java/util/function/BiFunction"), (.object "java/util/function/BiFunction")]
  resolved := Array.replicate 194 none
  statics := some 1 }

def pool13 : Array CpInfo := pool [(2, .class_ 4), (1, u "java/lang/Object"), (0, u "<init>"), (0, u "()V"), (7, .class_ 16), (1, u "java/util/Arrays"), (57, .class_ 76), (1, u "java/util/Arrays$NaturalOrder"), (36, .class_ 115), (1, u "java/util/Arrays$LegacyMergeSort"), (1, u "Z"), (21, u "copyOfRange"), (10, .methodref 151 152), (0, .class_ 153), (0, .nameAndType 154 155), (0, u "java/lang/System"), (0, u "arraycopy"), (0, u "(Ljava/lang/Object;ILjava/lang/Object;II)V"), (148, .methodref 305 306), (0, .class_ 307), (0, .nameAndType 308 309), (0, u "java/lang/Math"), (0, u "min"), (0, u "(II)I"), (29, .methodref 14 340), (0, .nameAndType 341 342), (0, u "copyOfRangeByte"), (0, u "([BII)[B"), (0, .methodref 14 344), (0, .nameAndType 345 346), (0, u "checkLength"), (0, u "(II)V"), (28, .class_ 376), (0, u "java/util/Arrays$ArrayList"), (68, u "$assertionsDisabled"), (269, u "MIN_ARRAY_SORT_GRAN"), (0, u "I"), (2, u "INSERTIONSORT_THRESHOLD"), (255, .class_ 976), (0, u "java/util/Arrays$ArrayItr")] 52

def k13m0 : Method := { name := "<init>", desc := "()V", sig := { parameters := [], returnType := none }, accessFlags := 2, code := none }
def k13c1 : Code := { maxStack := 4, maxLocals := 2, code := jdk_65_method_131_code, exceptionTable := #[], attributes := #[] }
def k13m1 : Method := { name := "checkLength", desc := "(II)V", sig := { parameters := [.int, .int], returnType := none }, accessFlags := 10, code := some k13c1 }
def k13c2 : Code := { maxStack := 3, maxLocals := 3, code := jdk_65_method_132_code, exceptionTable := #[], attributes := #[] }
def k13m2 : Method := { name := "copyOfRange", desc := "([BII)[B", sig := { parameters := [(.array .byte), .int, .int], returnType := some (.array .byte) }, accessFlags := 9, code := some k13c2 }
def k13c3 : Code := { maxStack := 6, maxLocals := 5, code := jdk_65_method_133_code, exceptionTable := #[], attributes := #[] }
def k13m3 : Method := { name := "copyOfRangeByte", desc := "([BII)[B", sig := { parameters := [(.array .byte), .int, .int], returnType := some (.array .byte) }, accessFlags := 10, code := some k13c3 }
/-- java/util/Arrays -/
def k13 : Class := { plain "java/util/Arrays" (some 0) with
  accessFlags := 49
  interfaces := #[]
  cf := some (fileOf pool13 14 #[.nestMembers #[975, 375, 113, 74]] #[{ accessFlags := 2, nameIndex := 5, descriptorIndex := 6, attributes := #[] }, { accessFlags := 10, nameIndex := 345, descriptorIndex := 346, attributes := #[] }, { accessFlags := 9, nameIndex := 139, descriptorIndex := 342, attributes := #[] }, { accessFlags := 10, nameIndex := 341, descriptorIndex := 342, attributes := #[] }] 49 2 #[] #[{ accessFlags := 26, nameIndex := 715, descriptorIndex := 716, attributes := #[] }, { accessFlags := 26, nameIndex := 719, descriptorIndex := 716, attributes := #[] }, { accessFlags := 4120, nameIndex := 445, descriptorIndex := 117, attributes := #[] }])
  fields := #[{ name := "MIN_ARRAY_SORT_GRAN", type := .int, accessFlags := 26, slot := 0, constantValue := 0 }, { name := "INSERTIONSORT_THRESHOLD", type := .int, accessFlags := 26, slot := 1, constantValue := 0 }, { name := "$assertionsDisabled", type := .boolean, accessFlags := 4120, slot := 2, constantValue := 0 }]
  methods := #[k13m0, k13m1, k13m2, k13m3]
  instanceTypes := #[]
  staticTypes := #[.int, .int, .boolean]
  resolved := Array.replicate 1029 none
  statics := none }

def pool14 : Array CpInfo := pool [(2, .class_ 4), (1, u "java/lang/Object"), (0, u "<init>"), (0, u "()V"), (1, .class_ 10), (1, u "java/lang/System"), (0, u "allowSecurityManager"), (0, u "I"), (16, u "cons"), (0, u "Ljava/io/Console;"), (77, .class_ 110), (1, u "java/lang/System$CallersHolder"), (43, u "initialErrStream"), (0, u "Ljava/io/PrintStream;"), (19, u "security"), (0, u "Ljava/lang/SecurityManager;"), (31, .class_ 209), (0, u "java/lang/System$1"), (7, u "props"), (0, u "Ljava/util/Properties;"), (2, u "lineSeparator"), (0, u "Ljava/lang/String;"), (96, .class_ 321), (1, u "java/lang/System$LoggerFinder"), (5, .class_ 328), (0, u "java/lang/System$Logger"), (67, u "err"), (2, u "out"), (91, u "notSupportedJnuEncoding"), (15, u "in"), (17, u "initialIn"), (0, u "Ljava/io/InputStream;"), (35, u "bootLayer"), (0, u "Ljava/lang/ModuleLayer;"), (99, .class_ 664), (0, u "java/lang/System$2"), (9, u "NEVER"), (2, u "MAYBE"), (49, u "arraycopy"), (0, u "(Ljava/lang/Object;ILjava/lang/Object;II)V"), (72, .class_ 802), (0, u "java/lang/System$Logger$Level")] 31

def k14m0 : Method := { name := "<init>", desc := "()V", sig := { parameters := [], returnType := none }, accessFlags := 2, code := none }
def k14m1 : Method := { name := "arraycopy", desc := "(Ljava/lang/Object;ILjava/lang/Object;II)V", sig := { parameters := [(.object "java/lang/Object"), .int, (.object "java/lang/Object"), .int, .int], returnType := none }, accessFlags := 265, code := none }
/-- java/lang/System -/
def k14 : Class := { plain "java/lang/System" (some 0) with
  accessFlags := 49
  interfaces := #[]
  cf := some (fileOf pool14 8 #[.nestMembers #[319, 327, 801, 108, 663, 208]] #[{ accessFlags := 2, nameIndex := 5, descriptorIndex := 6, attributes := #[] }, { accessFlags := 265, nameIndex := 727, descriptorIndex := 728, attributes := #[] }] 49 2 #[] #[{ accessFlags := 25, nameIndex := 507, descriptorIndex := 526, attributes := #[] }, { accessFlags := 25, nameIndex := 399, descriptorIndex := 155, attributes := #[] }, { accessFlags := 25, nameIndex := 396, descriptorIndex := 155, attributes := #[] }, { accessFlags := 10, nameIndex := 525, descriptorIndex := 526, attributes := #[] }, { accessFlags := 26, nameIndex := 674, descriptorIndex := 12, attributes := #[] }, { accessFlags := 26, nameIndex := 677, descriptorIndex := 12, attributes := #[] }, { accessFlags := 10, nameIndex := 11, descriptorIndex := 12, attributes := #[] }, { accessFlags := 74, nameIndex := 175, descriptorIndex := 176, attributes := #[] }, { accessFlags := 10, nameIndex := 491, descriptorIndex := 222, attributes := #[] }, { accessFlags := 74, nameIndex := 29, descriptorIndex := 30, attributes := #[] }, { accessFlags := 74, nameIndex := 154, descriptorIndex := 155, attributes := #[] }, { accessFlags := 10, nameIndex := 217, descriptorIndex := 218, attributes := #[] }, { accessFlags := 10, nameIndex := 221, descriptorIndex := 222, attributes := #[] }, { accessFlags := 8, nameIndex := 562, descriptorIndex := 563, attributes := #[] }])
  fields := #[{ name := "in", type := (.object "java/io/InputStream"), accessFlags := 25, slot := 0, constantValue := 0 }, { name := "out", type := (.object "java/io/PrintStream"), accessFlags := 25, slot := 1, constantValue := 0 }, { name := "err", type := (.object "java/io/PrintStream"), accessFlags := 25, slot := 2, constantValue := 0 }, { name := "initialIn", type := (.object "java/io/InputStream"), accessFlags := 10, slot := 3, constantValue := 0 }, { name := "NEVER", type := .int, accessFlags := 26, slot := 4, constantValue := 0 }, { name := "MAYBE", type := .int, accessFlags := 26, slot := 5, constantValue := 0 }, { name := "allowSecurityManager", type := .int, accessFlags := 10, slot := 6, constantValue := 0 }, { name := "security", type := (.object "java/lang/SecurityManager"), accessFlags := 74, slot := 7, constantValue := 0 }, { name := "notSupportedJnuEncoding", type := (.object "java/lang/String"), accessFlags := 10, slot := 8, constantValue := 0 }, { name := "cons", type := (.object "java/io/Console"), accessFlags := 74, slot := 9, constantValue := 0 }, { name := "initialErrStream", type := (.object "java/io/PrintStream"), accessFlags := 74, slot := 10, constantValue := 0 }, { name := "props", type := (.object "java/util/Properties"), accessFlags := 10, slot := 11, constantValue := 0 }, { name := "lineSeparator", type := (.object "java/lang/String"), accessFlags := 10, slot := 12, constantValue := 0 }, { name := "bootLayer", type := (.object "java/lang/ModuleLayer"), accessFlags := 8, slot := 13, constantValue := 0 }]
  methods := #[k14m0, k14m1]
  instanceTypes := #[]
  staticTypes := #[(.object "java/io/InputStream"), (.object "java/io/PrintStream"), (.object "java/io/PrintStream"), (.object "java/io/InputStream"), .int, .int, .int, (.object "java/lang/SecurityManager"), (.object "java/lang/String"), (.object "java/io/Console"), (.object "java/io/PrintStream"), (.object "java/util/Properties"), (.object "java/lang/String"), (.object "java/lang/ModuleLayer")]
  resolved := Array.replicate 834 none
  statics := none }

def pool15 : Array CpInfo := pool [(9, u "<init>"), (6, .class_ 18), (1, u "java/lang/Object"), (0, u "()V"), (1, .class_ 23), (1, u "jdk/internal/util/ArraysSupport"), (0, u "LOG2_ARRAY_LONG_INDEX_SCALE"), (0, u "I"), (2, u "U"), (0, u "Ljdk/internal/misc/Unsafe;"), (8, u "BIG_ENDIAN"), (0, u "Z"), (8, u "LOG2_BYTE_BIT_SIZE"), (4, u "LOG2_ARRAY_INT_INDEX_SCALE"), (54, u "JLA"), (0, u "Ljdk/internal/access/JavaLangAccess;"), (11, u "LOG2_ARRAY_BOOLEAN_INDEX_SCALE"), (9, u "LOG2_ARRAY_BYTE_INDEX_SCALE"), (5, u "LOG2_ARRAY_CHAR_INDEX_SCALE"), (5, u "LOG2_ARRAY_SHORT_INDEX_SCALE"), (18, u "LOG2_ARRAY_FLOAT_INDEX_SCALE"), (24, u "LOG2_ARRAY_DOUBLE_INDEX_SCALE"), (89, u "T_BOOLEAN"), (2, u "T_CHAR"), (1, u "T_FLOAT"), (1, u "T_DOUBLE"), (1, u "T_BYTE"), (1, u "T_SHORT"), (1, u "T_INT"), (1, u "T_LONG"), (1, u "SOFT_MAX_ARRAY_LENGTH")] 83

def k15m0 : Method := { name := "<init>", desc := "()V", sig := { parameters := [], returnType := none }, accessFlags := 2, code := none }
/-- jdk/internal/util/ArraysSupport -/
def k15 : Class := { plain "jdk/internal/util/ArraysSupport" (some 0) with
  accessFlags := 33
  interfaces := #[]
  cf := some (fileOf pool15 21 #[] #[{ accessFlags := 2, nameIndex := 9, descriptorIndex := 19, attributes := #[] }] 33 16 #[] #[{ accessFlags := 24, nameIndex := 28, descriptorIndex := 29, attributes := #[] }, { accessFlags := 26, nameIndex := 38, descriptorIndex := 39, attributes := #[] }, { accessFlags := 25, nameIndex := 121, descriptorIndex := 25, attributes := #[] }, { accessFlags := 25, nameIndex := 131, descriptorIndex := 25, attributes := #[] }, { accessFlags := 25, nameIndex := 137, descriptorIndex := 25, attributes := #[] }, { accessFlags := 25, nameIndex := 143, descriptorIndex := 25, attributes := #[] }, { accessFlags := 25, nameIndex := 53, descriptorIndex := 25, attributes := #[] }, { accessFlags := 25, nameIndex := 24, descriptorIndex := 25, attributes := #[] }, { accessFlags := 25, nameIndex := 162, descriptorIndex := 25, attributes := #[] }, { accessFlags := 25, nameIndex := 187, descriptorIndex := 25, attributes := #[] }, { accessFlags := 26, nameIndex := 48, descriptorIndex := 25, attributes := #[] }, { accessFlags := 25, nameIndex := 277, descriptorIndex := 25, attributes := #[] }, { accessFlags := 25, nameIndex := 280, descriptorIndex := 25, attributes := #[] }, { accessFlags := 25, nameIndex := 282, descriptorIndex := 25, attributes := #[] }, { accessFlags := 25, nameIndex := 284, descriptorIndex := 25, attributes := #[] }, { accessFlags := 25, nameIndex := 286, descriptorIndex := 25, attributes := #[] }, { accessFlags := 25, nameIndex := 288, descriptorIndex := 25, attributes := #[] }, { accessFlags := 25, nameIndex := 290, descriptorIndex := 25, attributes := #[] }, { accessFlags := 25, nameIndex := 292, descriptorIndex := 25, attributes := #[] }, { accessFlags := 26, nameIndex := 108, descriptorIndex := 109, attributes := #[] }, { accessFlags := 25, nameIndex := 294, descriptorIndex := 25, attributes := #[] }])
  fields := #[{ name := "U", type := (.object "jdk/internal/misc/Unsafe"), accessFlags := 24, slot := 0, constantValue := 0 }, { name := "BIG_ENDIAN", type := .boolean, accessFlags := 26, slot := 1, constantValue := 0 }, { name := "LOG2_ARRAY_BOOLEAN_INDEX_SCALE", type := .int, accessFlags := 25, slot := 2, constantValue := 0 }, { name := "LOG2_ARRAY_BYTE_INDEX_SCALE", type := .int, accessFlags := 25, slot := 3, constantValue := 0 }, { name := "LOG2_ARRAY_CHAR_INDEX_SCALE", type := .int, accessFlags := 25, slot := 4, constantValue := 0 }, { name := "LOG2_ARRAY_SHORT_INDEX_SCALE", type := .int, accessFlags := 25, slot := 5, constantValue := 0 }, { name := "LOG2_ARRAY_INT_INDEX_SCALE", type := .int, accessFlags := 25, slot := 6, constantValue := 0 }, { name := "LOG2_ARRAY_LONG_INDEX_SCALE", type := .int, accessFlags := 25, slot := 7, constantValue := 0 }, { name := "LOG2_ARRAY_FLOAT_INDEX_SCALE", type := .int, accessFlags := 25, slot := 8, constantValue := 0 }, { name := "LOG2_ARRAY_DOUBLE_INDEX_SCALE", type := .int, accessFlags := 25, slot := 9, constantValue := 0 }, { name := "LOG2_BYTE_BIT_SIZE", type := .int, accessFlags := 26, slot := 10, constantValue := 0 }, { name := "T_BOOLEAN", type := .int, accessFlags := 25, slot := 11, constantValue := 0 }, { name := "T_CHAR", type := .int, accessFlags := 25, slot := 12, constantValue := 0 }, { name := "T_FLOAT", type := .int, accessFlags := 25, slot := 13, constantValue := 0 }, { name := "T_DOUBLE", type := .int, accessFlags := 25, slot := 14, constantValue := 0 }, { name := "T_BYTE", type := .int, accessFlags := 25, slot := 15, constantValue := 0 }, { name := "T_SHORT", type := .int, accessFlags := 25, slot := 16, constantValue := 0 }, { name := "T_INT", type := .int, accessFlags := 25, slot := 17, constantValue := 0 }, { name := "T_LONG", type := .int, accessFlags := 25, slot := 18, constantValue := 0 }, { name := "JLA", type := (.object "jdk/internal/access/JavaLangAccess"), accessFlags := 26, slot := 19, constantValue := 0 }, { name := "SOFT_MAX_ARRAY_LENGTH", type := .int, accessFlags := 25, slot := 20, constantValue := 0 }]
  methods := #[k15m0]
  instanceTypes := #[]
  staticTypes := #[(.object "jdk/internal/misc/Unsafe"), .boolean, .int, .int, .int, .int, .int, .int, .int, .int, .int, .int, .int, .int, .int, .int, .int, .int, .int, (.object "jdk/internal/access/JavaLangAccess"), .int]
  resolved := Array.replicate 378 none
  statics := none }

def pool16 : Array CpInfo := pool [(1, u "java/lang/Cloneable"), (0, .class_ 1), (0, u "java/lang/Object"), (0, .class_ 3)] 3

/-- java/lang/Cloneable -/
def k16 : Class := { plain "java/lang/Cloneable" (some 0) with
  accessFlags := 1537
  interfaces := #[]
  cf := some (fileOf pool16 2 #[] #[] 1537 4 #[] #[])
  fields := #[]
  methods := #[]
  instanceTypes := #[]
  staticTypes := #[]
  resolved := Array.replicate 8 none
  statics := none }

/-- the primitive byte -/
def k17 : Class := { plain "byte" none with kind := .primitive 'B', accessFlags := 0x411 }
/-- [B -/
def k18 : Class := { plain "[B" (some 0) with kind := .array 17 .byte, interfaces := #[16, 2], accessFlags := 1041 }

/-- the primitive char -/
def k19 : Class := { plain "char" none with kind := .primitive 'C', accessFlags := 0x411 }
/-- [C -/
def k20 : Class := { plain "[C" (some 0) with kind := .array 19 .char, interfaces := #[16, 2], accessFlags := 1041 }

/-- the primitive int -/
def k21 : Class := { plain "int" none with kind := .primitive 'I', accessFlags := 0x411 }
/-- [I -/
def k22 : Class := { plain "[I" (some 0) with kind := .array 21 .int, interfaces := #[16, 2], accessFlags := 1041 }

def heap : Heap := #[{ cls := 7, slots := #[.long 0, .int 1, .null, .int 0, .null, .int 0, .int 0], vm := .statics 7 },
  { cls := 12, slots := #[.null, .null, .null], vm := .statics 12 }]
def classes : Array Class := #[k0, k1, k2, k3, k4, k5, k6, k7, k8, k9, k10, k11, k12, k13, k14, k15, k16, k17, k18, k19, k20, k21, k22]
def interned : List (Array UInt16 × Addr) := []
def slotsUsed : Nat := 10
def theMethod : MethodId := ⟨1, 3⟩
def args0 : Array Value := #[.int 5, .int 7, .int 9, .int 9, .int 9, .int 9]
def aboutOver (below : List Frame) : State where
  vm := { classes := classes, interned := interned.toArray }
  heap := heap
  slotsUsed := slotsUsed
  threads := #[{ frames := .invoking theMethod args0 :: below }]
def below0 : List Frame := [.native { method := ⟨0, 0⟩, args := #[] }]
def about1 : State := aboutOver below0
def p0 : Program := .bare "" "" ""
def e0 : Env := launch0.env 0 0 0
theorem w_frames : about1.frames = Frame.invoking theMethod args0 :: below0 := rfl
set_option maxRecDepth 65536 in
theorem w_args : argsFit about1.vm theMethod args0 = true := by decide +kernel
set_option maxRecDepth 65536 in
theorem w_heap : heapFits about1 = true := by decide +kernel
set_option maxRecDepth 65536 in
theorem w_runnable : about1.curStatus? = some .runnable := by decide +kernel
set_option maxRecDepth 65536 in
theorem w_alone : about1.alone = true := by decide +kernel
set_option maxRecDepth 65536 in
theorem w_named : about1.methodNamed? x = some theMethod := by decide +kernel
set_option maxRecDepth 65536 in
theorem w_hears : about1.hears theMethod below0 = true := by decide +kernel
set_option maxRecDepth 65536 in
theorem w_ripe : about1.ripe theMethod args0 below0 = true := by decide +kernel
theorem w_running : about1.status = .running := rfl
set_option maxRecDepth 65536 in
theorem w_room : about1.hasRoom e0.platform room_1 = true :=
  launch0.hasRoom_least _ room_1 (by decide +kernel) (by decide +kernel) (by decide +kernel) (by decide +kernel) (by decide +kernel) (by decide +kernel)
theorem allAtoms_all (ts : List Jvm.Cond) (a : Array Jvm.Value) (st : Jvm.State) : (allAtoms ts).before a st = ts.all (fun c => c.before a st) := by
  induction ts with
  | nil => rfl
  | cons c t ih =>
    show (Jvm.Cond.and c (allAtoms t)).before a st = _
    rw [Jvm.Cond.before_and, ih, List.all_cons]
def words1 : List Jvm.Cond := Jvm.Cond.code x code maxLocals ret :: tables_1
/-- a 'code' word, met by the world's own term for the bytes: nothing is compared byte by byte -/
theorem code_word {y : MethodName} {bytes : ByteArray} {mx : Nat} {rt : Option FieldType} {a : Array Value} {s : State} {m : MethodId} {meth : Method} {c : Code} (h1 : s.methodNamed? y = some m) (h2 : s.vm.method? m = some meth) (h3 : meth.code = some c) (h4 : c.code = bytes)
    (h5 : (c.maxLocals == mx && c.exceptionTable.isEmpty && decide (c.maxStack ≤ mostOperands) && decide (meth.sig.returnType = rt) && !meth.locks && decide (parseMethodDescriptor y.desc = some meth.sig)) = true) : (Jvm.Cond.code y bytes mx rt).before a s = true := by
  simp only [Bool.and_eq_true, beq_iff_eq, Bool.not_eq_true', decide_eq_true_eq] at h5
  obtain ⟨⟨⟨⟨⟨g1, g2⟩, g3⟩, g4⟩, g5⟩, g6⟩ := h5
  simp [Cond.before, Cond.holds, Cond.value, h1, h2, h3, h4, g1, g2, g3, g4, g5, g6]
def isCode : Jvm.Cond → Bool
  | .code _ _ _ _ => true
  | _ => false
theorem all_split {L : List Jvm.Cond} {P : Jvm.Cond → Bool} (h1 : L.all (fun c => isCode c || P c) = true) (h2 : ∀ c ∈ L.filter isCode, P c = true) : L.all P = true := by
  refine List.all_eq_true.mpr fun c hc => ?_
  have h := List.all_eq_true.mp h1 c hc
  rcases Bool.eq_false_or_eq_true (isCode c) with hi | hi
  · exact h2 c (List.mem_filter.mpr ⟨hc, hi⟩)
  · simpa [hi] using h
set_option maxRecDepth 65536 in
theorem w_c0 : (Jvm.Cond.code x code maxLocals ret).before args0 about1 = true := code_word (m := ⟨1, 3⟩) (meth := k1m3) (c := k1c3) (by decide +kernel) rfl rfl rfl (by decide +kernel)
set_option maxRecDepth 65536 in
theorem w_c1 : (Jvm.Cond.code ({ cls := "com/example/fascicle/fascicle/EntriesDirectoryOfPinLaw", name := "ch", desc := "(I)C" } : Jvm.MethodName) method_2_code (1 : Nat) (Option.some Jvm.ClassFile.FieldType.char)).before args0 about1 = true := code_word (m := ⟨1, 1⟩) (meth := k1m1) (c := k1c1) (by decide +kernel) rfl rfl rfl (by decide +kernel)
set_option maxRecDepth 65536 in
theorem w_c2 : (Jvm.Cond.code ({ cls := "com/example/fascicle/fascicle/EntriesDirectoryOfPinLaw", name := "mk", desc := "(ICCCCC)Ljava/lang/String;" } : Jvm.MethodName) method_3_code (6 : Nat) (Option.some (Jvm.ClassFile.FieldType.object "java/lang/String"))).before args0 about1 = true := code_word (m := ⟨1, 2⟩) (meth := k1m2) (c := k1c2) (by decide +kernel) rfl rfl rfl (by decide +kernel)
set_option maxRecDepth 65536 in
theorem w_c3 : (Jvm.Cond.code ({ cls := "com/example/fascicle/fascicle/Entries", name := "directoryOf", desc := "(Ljava/lang/String;)Ljava/lang/String;" } : Jvm.MethodName) prog_32_method_14_code (2 : Nat) (Option.some (Jvm.ClassFile.FieldType.object "java/lang/String"))).before args0 about1 = true := code_word (m := ⟨8, 0⟩) (meth := k8m0) (c := k8c0) (by decide +kernel) rfl rfl rfl (by decide +kernel)
set_option maxRecDepth 65536 in
theorem w_c4 : (Jvm.Cond.code ({ cls := "java/lang/String", name := "lastIndexOf", desc := "(I)I" } : Jvm.MethodName) jdk_42_method_82_code (2 : Nat) (Option.some Jvm.ClassFile.FieldType.int)).before args0 about1 = true := code_word (m := ⟨7, 4⟩) (meth := k7m4) (c := k7c4) (by decide +kernel) rfl rfl rfl (by decide +kernel)
set_option maxRecDepth 65536 in
theorem w_c5 : (Jvm.Cond.code ({ cls := "java/lang/String", name := "length", desc := "()I" } : Jvm.MethodName) jdk_42_method_54_code (1 : Nat) (Option.some Jvm.ClassFile.FieldType.int)).before args0 about1 = true := code_word (m := ⟨7, 2⟩) (meth := k7m2) (c := k7c2) (by decide +kernel) rfl rfl rfl (by decide +kernel)
set_option maxRecDepth 65536 in
theorem w_c6 : (Jvm.Cond.code ({ cls := "java/lang/String", name := "coder", desc := "()B" } : Jvm.MethodName) jdk_42_method_152_code (1 : Nat) (Option.some Jvm.ClassFile.FieldType.byte)).before args0 about1 = true := code_word (m := ⟨7, 9⟩) (meth := k7m9) (c := k7c9) (by decide +kernel) rfl rfl rfl (by decide +kernel)
set_option maxRecDepth 65536 in
theorem w_c7 : (Jvm.Cond.code ({ cls := "java/lang/String", name := "lastIndexOf", desc := "(II)I" } : Jvm.MethodName) jdk_42_method_83_code (3 : Nat) (Option.some Jvm.ClassFile.FieldType.int)).before args0 about1 = true := code_word (m := ⟨7, 5⟩) (meth := k7m5) (c := k7c5) (by decide +kernel) rfl rfl rfl (by decide +kernel)
set_option maxRecDepth 65536 in
theorem w_c8 : (Jvm.Cond.code ({ cls := "java/lang/String", name := "isLatin1", desc := "()Z" } : Jvm.MethodName) jdk_42_method_154_code (1 : Nat) (Option.some Jvm.ClassFile.FieldType.boolean)).before args0 about1 = true := code_word (m := ⟨7, 10⟩) (meth := k7m10) (c := k7c10) (by decide +kernel) rfl rfl rfl (by decide +kernel)
set_option maxRecDepth 65536 in
theorem w_c9 : (Jvm.Cond.code ({ cls := "java/lang/StringLatin1", name := "lastIndexOf", desc := "([BII)I" } : Jvm.MethodName) jdk_43_method_27_code (4 : Nat) (Option.some Jvm.ClassFile.FieldType.int)).before args0 about1 = true := code_word (m := ⟨9, 3⟩) (meth := k9m3) (c := k9c3) (by decide +kernel) rfl rfl rfl (by decide +kernel)
set_option maxRecDepth 65536 in
theorem w_c10 : (Jvm.Cond.code ({ cls := "java/lang/StringLatin1", name := "canEncode", desc := "(I)Z" } : Jvm.MethodName) jdk_43_method_4_code (1 : Nat) (Option.some Jvm.ClassFile.FieldType.boolean)).before args0 about1 = true := code_word (m := ⟨9, 2⟩) (meth := k9m2) (c := k9c2) (by decide +kernel) rfl rfl rfl (by decide +kernel)
set_option maxRecDepth 65536 in
theorem w_c11 : (Jvm.Cond.code ({ cls := "java/lang/Math", name := "min", desc := "(II)I" } : Jvm.MethodName) jdk_29_method_69_code (2 : Nat) (Option.some Jvm.ClassFile.FieldType.int)).before args0 about1 = true := code_word (m := ⟨10, 1⟩) (meth := k10m1) (c := k10c1) (by decide +kernel) rfl rfl rfl (by decide +kernel)
set_option maxRecDepth 65536 in
theorem w_c12 : (Jvm.Cond.code ({ cls := "java/lang/String", name := "<init>", desc := "([C)V" } : Jvm.MethodName) jdk_42_method_3_code (2 : Nat) (Option.none : Option Jvm.ClassFile.FieldType)).before args0 about1 = true := code_word (m := ⟨7, 1⟩) (meth := k7m1) (c := k7c1) (by decide +kernel) rfl rfl rfl (by decide +kernel)
set_option maxRecDepth 65536 in
theorem w_c13 : (Jvm.Cond.code ({ cls := "java/lang/String", name := "<init>", desc := "([CIILjava/lang/Void;)V" } : Jvm.MethodName) jdk_42_method_149_code (6 : Nat) (Option.none : Option Jvm.ClassFile.FieldType)).before args0 about1 = true := code_word (m := ⟨7, 7⟩) (meth := k7m7) (c := k7c7) (by decide +kernel) rfl rfl rfl (by decide +kernel)
set_option maxRecDepth 65536 in
theorem w_c14 : (Jvm.Cond.code ({ cls := "java/lang/Object", name := "<init>", desc := "()V" } : Jvm.MethodName) object_method_1_code (1 : Nat) (Option.none : Option Jvm.ClassFile.FieldType)).before args0 about1 = true := code_word (m := ⟨0, 0⟩) (meth := k0m0) (c := k0c0) (by decide +kernel) rfl rfl rfl (by decide +kernel)
set_option maxRecDepth 65536 in
theorem w_c15 : (Jvm.Cond.code ({ cls := "java/lang/StringUTF16", name := "compress", desc := "([CII)[B" } : Jvm.MethodName) jdk_52_method_16_code (6 : Nat) (Option.some (Jvm.ClassFile.FieldType.array Jvm.ClassFile.FieldType.byte))).before args0 about1 = true := code_word (m := ⟨11, 2⟩) (meth := k11m2) (c := k11c2) (by decide +kernel) rfl rfl rfl (by decide +kernel)
set_option maxRecDepth 65536 in
theorem w_c16 : (Jvm.Cond.code ({ cls := "java/lang/StringUTF16", name := "compress", desc := "([CI[BII)I" } : Jvm.MethodName) jdk_52_method_21_code (7 : Nat) (Option.some Jvm.ClassFile.FieldType.int)).before args0 about1 = true := code_word (m := ⟨11, 3⟩) (meth := k11m3) (c := k11c3) (by decide +kernel) rfl rfl rfl (by decide +kernel)
set_option maxRecDepth 65536 in
theorem w_c17 : (Jvm.Cond.code ({ cls := "java/lang/StringUTF16", name := "coderFromArrayLen", desc := "([BI)B" } : Jvm.MethodName) jdk_52_method_15_code (2 : Nat) (Option.some Jvm.ClassFile.FieldType.byte)).before args0 about1 = true := code_word (m := ⟨11, 1⟩) (meth := k11m1) (c := k11c1) (by decide +kernel) rfl rfl rfl (by decide +kernel)
set_option maxRecDepth 65536 in
theorem w_c18 : (Jvm.Cond.code ({ cls := "java/lang/String", name := "substring", desc := "(II)Ljava/lang/String;" } : Jvm.MethodName) jdk_42_method_92_code (5 : Nat) (Option.some (Jvm.ClassFile.FieldType.object "java/lang/String"))).before args0 about1 = true := code_word (m := ⟨7, 6⟩) (meth := k7m6) (c := k7c6) (by decide +kernel) rfl rfl rfl (by decide +kernel)
set_option maxRecDepth 65536 in
theorem w_c19 : (Jvm.Cond.code ({ cls := "java/lang/String", name := "checkBoundsBeginEnd", desc := "(III)V" } : Jvm.MethodName) jdk_42_method_158_code (3 : Nat) (Option.none : Option Jvm.ClassFile.FieldType)).before args0 about1 = true := code_word (m := ⟨7, 12⟩) (meth := k7m12) (c := k7c12) (by decide +kernel) rfl rfl rfl (by decide +kernel)
set_option maxRecDepth 65536 in
theorem w_c20 : (Jvm.Cond.code ({ cls := "jdk/internal/util/Preconditions", name := "checkFromToIndex", desc := "(IIILjava/util/function/BiFunction;)I" } : Jvm.MethodName) jdk_41_method_12_code (4 : Nat) (Option.some Jvm.ClassFile.FieldType.int)).before args0 about1 = true := code_word (m := ⟨12, 2⟩) (meth := k12m2) (c := k12c2) (by decide +kernel) rfl rfl rfl (by decide +kernel)
set_option maxRecDepth 65536 in
theorem w_c21 : (Jvm.Cond.code ({ cls := "java/lang/StringLatin1", name := "newString", desc := "([BII)Ljava/lang/String;" } : Jvm.MethodName) jdk_43_method_47_code (3 : Nat) (Option.some (Jvm.ClassFile.FieldType.object "java/lang/String"))).before args0 about1 = true := code_word (m := ⟨9, 4⟩) (meth := k9m4) (c := k9c4) (by decide +kernel) rfl rfl rfl (by decide +kernel)
set_option maxRecDepth 65536 in
theorem w_c22 : (Jvm.Cond.code ({ cls := "java/util/Arrays", name := "copyOfRange", desc := "([BII)[B" } : Jvm.MethodName) jdk_65_method_132_code (3 : Nat) (Option.some (Jvm.ClassFile.FieldType.array Jvm.ClassFile.FieldType.byte))).before args0 about1 = true := code_word (m := ⟨13, 2⟩) (meth := k13m2) (c := k13c2) (by decide +kernel) rfl rfl rfl (by decide +kernel)
set_option maxRecDepth 65536 in
theorem w_c23 : (Jvm.Cond.code ({ cls := "java/util/Arrays", name := "copyOfRangeByte", desc := "([BII)[B" } : Jvm.MethodName) jdk_65_method_133_code (5 : Nat) (Option.some (Jvm.ClassFile.FieldType.array Jvm.ClassFile.FieldType.byte))).before args0 about1 = true := code_word (m := ⟨13, 3⟩) (meth := k13m3) (c := k13c3) (by decide +kernel) rfl rfl rfl (by decide +kernel)
set_option maxRecDepth 65536 in
theorem w_c24 : (Jvm.Cond.code ({ cls := "java/util/Arrays", name := "checkLength", desc := "(II)V" } : Jvm.MethodName) jdk_65_method_131_code (2 : Nat) (Option.none : Option Jvm.ClassFile.FieldType)).before args0 about1 = true := code_word (m := ⟨13, 1⟩) (meth := k13m1) (c := k13c1) (by decide +kernel) rfl rfl rfl (by decide +kernel)
set_option maxRecDepth 65536 in
theorem w_c25 : (Jvm.Cond.code ({ cls := "java/lang/String", name := "<init>", desc := "([BB)V" } : Jvm.MethodName) jdk_42_method_151_code (3 : Nat) (Option.none : Option Jvm.ClassFile.FieldType)).before args0 about1 = true := code_word (m := ⟨7, 8⟩) (meth := k7m8) (c := k7c8) (by decide +kernel) rfl rfl rfl (by decide +kernel)
set_option maxRecDepth 65536 in
theorem w_c26 : (Jvm.Cond.code ({ cls := "java/lang/String", name := "charAt", desc := "(I)C" } : Jvm.MethodName) jdk_42_method_56_code (2 : Nat) (Option.some Jvm.ClassFile.FieldType.char)).before args0 about1 = true := code_word (m := ⟨7, 3⟩) (meth := k7m3) (c := k7c3) (by decide +kernel) rfl rfl rfl (by decide +kernel)
set_option maxRecDepth 65536 in
theorem w_c27 : (Jvm.Cond.code ({ cls := "java/lang/StringLatin1", name := "charAt", desc := "([BI)C" } : Jvm.MethodName) jdk_43_method_2_code (2 : Nat) (Option.some Jvm.ClassFile.FieldType.char)).before args0 about1 = true := code_word (m := ⟨9, 1⟩) (meth := k9m1) (c := k9c1) (by decide +kernel) rfl rfl rfl (by decide +kernel)
set_option maxRecDepth 65536 in
theorem w_c28 : (Jvm.Cond.code ({ cls := "java/lang/String", name := "checkIndex", desc := "(II)V" } : Jvm.MethodName) jdk_42_method_155_code (2 : Nat) (Option.none : Option Jvm.ClassFile.FieldType)).before args0 about1 = true := code_word (m := ⟨7, 11⟩) (meth := k7m11) (c := k7c11) (by decide +kernel) rfl rfl rfl (by decide +kernel)
set_option maxRecDepth 65536 in
theorem w_c29 : (Jvm.Cond.code ({ cls := "jdk/internal/util/Preconditions", name := "checkIndex", desc := "(IILjava/util/function/BiFunction;)I" } : Jvm.MethodName) jdk_41_method_11_code (3 : Nat) (Option.some Jvm.ClassFile.FieldType.int)).before args0 about1 = true := code_word (m := ⟨12, 1⟩) (meth := k12m1) (c := k12c1) (by decide +kernel) rfl rfl rfl (by decide +kernel)
def codes1 : List Jvm.Cond := [Jvm.Cond.code x code maxLocals ret, Jvm.Cond.code ({ cls := "com/example/fascicle/fascicle/EntriesDirectoryOfPinLaw", name := "ch", desc := "(I)C" } : Jvm.MethodName) method_2_code (1 : Nat) (Option.some Jvm.ClassFile.FieldType.char), Jvm.Cond.code ({ cls := "com/example/fascicle/fascicle/EntriesDirectoryOfPinLaw", name := "mk", desc := "(ICCCCC)Ljava/lang/String;" } : Jvm.MethodName) method_3_code (6 : Nat) (Option.some (Jvm.ClassFile.FieldType.object "java/lang/String")), Jvm.Cond.code ({ cls := "com/example/fascicle/fascicle/Entries", name := "directoryOf", desc := "(Ljava/lang/String;)Ljava/lang/String;" } : Jvm.MethodName) prog_32_method_14_code (2 : Nat) (Option.some (Jvm.ClassFile.FieldType.object "java/lang/String")), Jvm.Cond.code ({ cls := "java/lang/String", name := "lastIndexOf", desc := "(I)I" } : Jvm.MethodName) jdk_42_method_82_code (2 : Nat) (Option.some Jvm.ClassFile.FieldType.int), Jvm.Cond.code ({ cls := "java/lang/String", name := "length", desc := "()I" } : Jvm.MethodName) jdk_42_method_54_code (1 : Nat) (Option.some Jvm.ClassFile.FieldType.int), Jvm.Cond.code ({ cls := "java/lang/String", name := "coder", desc := "()B" } : Jvm.MethodName) jdk_42_method_152_code (1 : Nat) (Option.some Jvm.ClassFile.FieldType.byte), Jvm.Cond.code ({ cls := "java/lang/String", name := "lastIndexOf", desc := "(II)I" } : Jvm.MethodName) jdk_42_method_83_code (3 : Nat) (Option.some Jvm.ClassFile.FieldType.int), Jvm.Cond.code ({ cls := "java/lang/String", name := "isLatin1", desc := "()Z" } : Jvm.MethodName) jdk_42_method_154_code (1 : Nat) (Option.some Jvm.ClassFile.FieldType.boolean), Jvm.Cond.code ({ cls := "java/lang/StringLatin1", name := "lastIndexOf", desc := "([BII)I" } : Jvm.MethodName) jdk_43_method_27_code (4 : Nat) (Option.some Jvm.ClassFile.FieldType.int), Jvm.Cond.code ({ cls := "java/lang/StringLatin1", name := "canEncode", desc := "(I)Z" } : Jvm.MethodName) jdk_43_method_4_code (1 : Nat) (Option.some Jvm.ClassFile.FieldType.boolean), Jvm.Cond.code ({ cls := "java/lang/Math", name := "min", desc := "(II)I" } : Jvm.MethodName) jdk_29_method_69_code (2 : Nat) (Option.some Jvm.ClassFile.FieldType.int), Jvm.Cond.code ({ cls := "java/lang/String", name := "<init>", desc := "([C)V" } : Jvm.MethodName) jdk_42_method_3_code (2 : Nat) (Option.none : Option Jvm.ClassFile.FieldType), Jvm.Cond.code ({ cls := "java/lang/String", name := "<init>", desc := "([CIILjava/lang/Void;)V" } : Jvm.MethodName) jdk_42_method_149_code (6 : Nat) (Option.none : Option Jvm.ClassFile.FieldType), Jvm.Cond.code ({ cls := "java/lang/Object", name := "<init>", desc := "()V" } : Jvm.MethodName) object_method_1_code (1 : Nat) (Option.none : Option Jvm.ClassFile.FieldType), Jvm.Cond.code ({ cls := "java/lang/StringUTF16", name := "compress", desc := "([CII)[B" } : Jvm.MethodName) jdk_52_method_16_code (6 : Nat) (Option.some (Jvm.ClassFile.FieldType.array Jvm.ClassFile.FieldType.byte)), Jvm.Cond.code ({ cls := "java/lang/StringUTF16", name := "compress", desc := "([CI[BII)I" } : Jvm.MethodName) jdk_52_method_21_code (7 : Nat) (Option.some Jvm.ClassFile.FieldType.int), Jvm.Cond.code ({ cls := "java/lang/StringUTF16", name := "coderFromArrayLen", desc := "([BI)B" } : Jvm.MethodName) jdk_52_method_15_code (2 : Nat) (Option.some Jvm.ClassFile.FieldType.byte), Jvm.Cond.code ({ cls := "java/lang/String", name := "substring", desc := "(II)Ljava/lang/String;" } : Jvm.MethodName) jdk_42_method_92_code (5 : Nat) (Option.some (Jvm.ClassFile.FieldType.object "java/lang/String")), Jvm.Cond.code ({ cls := "java/lang/String", name := "checkBoundsBeginEnd", desc := "(III)V" } : Jvm.MethodName) jdk_42_method_158_code (3 : Nat) (Option.none : Option Jvm.ClassFile.FieldType), Jvm.Cond.code ({ cls := "jdk/internal/util/Preconditions", name := "checkFromToIndex", desc := "(IIILjava/util/function/BiFunction;)I" } : Jvm.MethodName) jdk_41_method_12_code (4 : Nat) (Option.some Jvm.ClassFile.FieldType.int), Jvm.Cond.code ({ cls := "java/lang/StringLatin1", name := "newString", desc := "([BII)Ljava/lang/String;" } : Jvm.MethodName) jdk_43_method_47_code (3 : Nat) (Option.some (Jvm.ClassFile.FieldType.object "java/lang/String")), Jvm.Cond.code ({ cls := "java/util/Arrays", name := "copyOfRange", desc := "([BII)[B" } : Jvm.MethodName) jdk_65_method_132_code (3 : Nat) (Option.some (Jvm.ClassFile.FieldType.array Jvm.ClassFile.FieldType.byte)), Jvm.Cond.code ({ cls := "java/util/Arrays", name := "copyOfRangeByte", desc := "([BII)[B" } : Jvm.MethodName) jdk_65_method_133_code (5 : Nat) (Option.some (Jvm.ClassFile.FieldType.array Jvm.ClassFile.FieldType.byte)), Jvm.Cond.code ({ cls := "java/util/Arrays", name := "checkLength", desc := "(II)V" } : Jvm.MethodName) jdk_65_method_131_code (2 : Nat) (Option.none : Option Jvm.ClassFile.FieldType), Jvm.Cond.code ({ cls := "java/lang/String", name := "<init>", desc := "([BB)V" } : Jvm.MethodName) jdk_42_method_151_code (3 : Nat) (Option.none : Option Jvm.ClassFile.FieldType), Jvm.Cond.code ({ cls := "java/lang/String", name := "charAt", desc := "(I)C" } : Jvm.MethodName) jdk_42_method_56_code (2 : Nat) (Option.some Jvm.ClassFile.FieldType.char), Jvm.Cond.code ({ cls := "java/lang/StringLatin1", name := "charAt", desc := "([BI)C" } : Jvm.MethodName) jdk_43_method_2_code (2 : Nat) (Option.some Jvm.ClassFile.FieldType.char), Jvm.Cond.code ({ cls := "java/lang/String", name := "checkIndex", desc := "(II)V" } : Jvm.MethodName) jdk_42_method_155_code (2 : Nat) (Option.none : Option Jvm.ClassFile.FieldType), Jvm.Cond.code ({ cls := "jdk/internal/util/Preconditions", name := "checkIndex", desc := "(IILjava/util/function/BiFunction;)I" } : Jvm.MethodName) jdk_41_method_11_code (3 : Nat) (Option.some Jvm.ClassFile.FieldType.int)]
set_option maxRecDepth 65536 in
theorem codes_eq : words1.filter isCode = codes1 := rfl
theorem w_codes : ∀ c ∈ words1.filter isCode, c.before args0 about1 = true := by
  rw [codes_eq]
  intro c hc
  simp only [codes1, List.mem_cons, List.not_mem_nil, or_false] at hc
  rcases hc with rfl | rfl | rfl | rfl | rfl | rfl | rfl | rfl | rfl | rfl | rfl | rfl | rfl | rfl | rfl | rfl | rfl | rfl | rfl | rfl | rfl | rfl | rfl | rfl | rfl | rfl | rfl | rfl | rfl | rfl
  · exact w_c0
  · exact w_c1
  · exact w_c2
  · exact w_c3
  · exact w_c4
  · exact w_c5
  · exact w_c6
  · exact w_c7
  · exact w_c8
  · exact w_c9
  · exact w_c10
  · exact w_c11
  · exact w_c12
  · exact w_c13
  · exact w_c14
  · exact w_c15
  · exact w_c16
  · exact w_c17
  · exact w_c18
  · exact w_c19
  · exact w_c20
  · exact w_c21
  · exact w_c22
  · exact w_c23
  · exact w_c24
  · exact w_c25
  · exact w_c26
  · exact w_c27
  · exact w_c28
  · exact w_c29
set_option maxRecDepth 65536 in
theorem w_t1 : (words1.take 24).all (fun c => isCode c || c.before args0 about1) = true := by decide +kernel
set_option maxRecDepth 65536 in
theorem w_t2 : ((words1.drop 24).take 24).all (fun c => isCode c || c.before args0 about1) = true := by decide +kernel
set_option maxRecDepth 65536 in
theorem w_t3 : (((words1.drop 24).drop 24).take 24).all (fun c => isCode c || c.before args0 about1) = true := by decide +kernel
set_option maxRecDepth 65536 in
theorem w_t4 : ((((words1.drop 24).drop 24).drop 24).take 24).all (fun c => isCode c || c.before args0 about1) = true := by decide +kernel
set_option maxRecDepth 65536 in
theorem w_t5 : (((((words1.drop 24).drop 24).drop 24).drop 24).take 24).all (fun c => isCode c || c.before args0 about1) = true := by decide +kernel
set_option maxRecDepth 65536 in
theorem w_t6 : (((((words1.drop 24).drop 24).drop 24).drop 24).drop 24).all (fun c => isCode c || c.before args0 about1) = true := by decide +kernel
theorem w_tables : (allAtoms (Jvm.Cond.code x code maxLocals ret :: tables_1)).before args0 about1 = true := by
  rw [allAtoms_all]
  show words1.all (fun c => c.before args0 about1) = true
  refine all_split ?_ w_codes
  rw [← List.take_append_drop 24 words1, List.all_append, w_t1, ← List.take_append_drop 24 (words1.drop 24), List.all_append, w_t2, ← List.take_append_drop 24 ((words1.drop 24).drop 24), List.all_append, w_t3, ← List.take_append_drop 24 (((words1.drop 24).drop 24).drop 24), List.all_append, w_t4, ← List.take_append_drop 24 ((((words1.drop 24).drop 24).drop 24).drop 24), List.all_append, w_t5, w_t6]
  rfl
set_option maxRecDepth 65536 in
theorem w_rest : rest_1_c.before args0 about1 = true := by decide +kernel
set_option maxRecDepth 65536 in
theorem w_case : (Jvm.Cond.and given_1 narrow_1).before args0 about1 = true := by decide +kernel
set_option maxRecDepth 65536 in
theorem w_consts : constsHeld consts_1 about1 := Jvm.Lit.constsHeldB_iff.mp (by decide +kernel)
theorem w_applies : (headSpec (Jvm.Cond.code x code maxLocals ret :: tables_1) room_1).applies x e0.platform about1 = true :=
  (Spec.applies_iff w_frames).mpr ⟨w_running, w_runnable, w_alone, w_named, w_hears, w_ripe, w_room, w_tables⟩
theorem atStart : AtStart classFile x code maxLocals ret World_1 tables_1 room_1 Calls_1 rest_1 Pre_1 launch0 p0 e0 about1 theMethod args0 below0 :=
  ⟨lists_1, trivial, launch0.admits_env _ _ _, launch0.least_env, fairChoices_fair.cas, fairChoices_fair.clock, w_frames, w_args, w_heap, w_applies, ⟨w_consts, trivial⟩, w_rest, w_case⟩
end start1
theorem witness_1 : WitnessClaimed_1 := ⟨start1.p0, start1.e0, start1.about1, start1.theMethod, start1.args0, start1.below0, start1.atStart⟩
end Jvm.Pilot.@@N@@
