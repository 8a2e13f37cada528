import JvmDerived
import JvmDerived.Pilot.@@N@@Statement
import JvmDerived.Pilot.@@N@@Code
set_option linter.unusedVariables false
set_option linter.unusedSimpArgs false
namespace Jvm.Pilot.@@N@@
open Jvm Jvm.ClassFile Sem Op Lib Jvm.Free Jvm.Stand Jvm.LawKit Jvm.RoadKit Bundle Jvm.Pilot.@@N@@.Jvm.D
section OwnKit
variable {p : Program} {l : Launch} {e : Env} {R : Room} {s : State} {m : MethodId} {args : Array Value} {below : List Frame} {meth : Method} {c : Code} {T : State} {locs : List Loc} {cells slots : Nat}
/-- from T with the frame F on top the body ends, and its end is as P says -/
def Rch (p : Program) (e : Env) (below : List Frame) (T : State) (F : JFrame) (P : Outcome → State → Prop) : Prop := ∃ s₂ o, Steps p.tables e below (T.setTop F) s₂ ∧ s₂.status = .running ∧ Ended s₂ below o ∧ P o s₂
theorem Rch.st {P : Outcome → State → Prop} {T T' : State} {F F' : JFrame} (k : ∀ t, Steps p.tables e below (T'.setTop F') t → Steps p.tables e below (T.setTop F) t) (h : Rch p e below T' F' P) : Rch p e below T F P :=
  let ⟨a, o, h1, h2⟩ := h
  ⟨a, o, k _ h1, h2⟩
theorem Rch.sq {P : Outcome → State → Prop} {T T' : State} {F F' : JFrame} (k : Steps p.tables e below (T.setTop F) (T'.setTop F')) (h : Rch p e below T' F' P) : Rch p e below T F P := Rch.st (fun _ q => k.trans q) h
theorem Rch.cast {P : Outcome → State → Prop} {T : State} {F F' : JFrame} (q : F = F') (h : Rch p e below T F' P) : Rch p e below T F P := q ▸ h
/-- a return, as a contract says it -/
def FinP (s : State) (Q : Option Value → Heap → List Loc → Prop) (K N : Nat) (o : Outcome) (U : State) : Prop := ∃ v L, o = .returned v ∧ Q v U.heap L ∧ FrameEnd s o U L K N
theorem Rch.retV (X : Stand p l e R s m args below meth c T locs cells slots) (hx : p.tables.exec = Jvm.exec) {pc : Nat} {Ls : Array Slot} {w : Value} {t : FieldType} {i : Instr} {rest : List Value} {Q : Option Value → Heap → List Loc → Prop} {K N : Nat} (hret : meth.sig.returnType = some t) (hn : narrow t w = w)
    (hi : (i = .ireturn ∧ (t = .int ∨ t = .boolean ∨ t = .byte ∨ t = .char ∨ t = .short) ∧ ∃ z, w = .int z) ∨ (i = .lreturn ∧ t = .long ∧ ∃ z, w = .long z) ∨ (i = .dreturn ∧ t = .double ∧ ∃ z, w = .double z) ∨ (i = .freturn ∧ t = .float ∧ ∃ z, w = .float z) ∨ (i = .areturn ∧ t.isReference = true ∧ w.isRef = true))
    (hd : decode c.code pc = .ok (i, 1)) (hq : Q (some w) T.heap locs) (hk : cells ≤ K) (hs : slots ≤ N) (hlocks : meth.locks = false := by first | assumption | exact BodyLoose.notSynchronized (by assumption) | exact Body.notSynchronized (by assumption)) : Rch p e below T (mkF m pc Ls (w :: rest)) (FinP s Q K N) := by
  obtain ⟨fs, hr, hrun, hended, hW, hsame⟩ := X.leave (v := some w) (fun h => by rw [hret] at h; cases h) hlocks
  exact ⟨_, _, retOut X hx hret hn hi hd hr, hrun, hended, _, _, rfl, hq, ⟨_, rfl⟩, hW, hsame.mono hk hs⟩
theorem Rch.ret0 (X : Stand p l e R s m args below meth c T locs cells slots) (hx : p.tables.exec = Jvm.exec) {pc : Nat} {Ls : Array Slot} {Q : Option Value → Heap → List Loc → Prop} {K N : Nat} (hret : meth.sig.returnType = none)
    (hd : decode c.code pc = .ok (.return_, 1)) (hq : Q none T.heap locs) (hk : cells ≤ K) (hs : slots ≤ N) (hlocks : meth.locks = false := by first | assumption | exact BodyLoose.notSynchronized (by assumption) | exact Body.notSynchronized (by assumption)) : Rch p e below T (mkF m pc Ls []) (FinP s Q K N) := by
  obtain ⟨fs, hr, hrun, hended, hW, hsame⟩ := X.leave (v := none) (fun _ => rfl) hlocks
  exact ⟨_, _, X.returnOut hx hret hd hr, hrun, hended, _, _, rfl, hq, ⟨_, rfl⟩, hW, hsame.mono hk hs⟩
theorem Rnar {t : FieldType} {w : Value} (h : w.isRef = true) : narrow t w = w := by cases w <;> first | (cases t <;> rfl) | (simp [Value.isRef] at h)
theorem Rfit {t : FieldType} {w : Value} (ht : t.isReference = true) (h : w.isRef = true) : fits t w = true := by cases t <;> first | (cases ht; done) | (cases w <;> simp [Value.isRef, fits] at h ⊢)
theorem own_selP {args : Array Value} {y : MethodName} {n : Nat} (wi : (Cond.instantiable y.cls n).before args s = true) (hpriv : s.PrivateAt y) (hinst : (Cond.instanceMethod y).before args s = true) (hy : y.cls ≠ "java/lang/invoke/MethodHandle" ∧ y.cls ≠ "java/lang/invoke/VarHandle") : (Cond.selects y.cls y y).before args s = true := by
  obtain ⟨c2, k2, i1, i2, i3, i4⟩ := Cond.instantiable_spec wi
  exact selects_self_of_private i1 i2 (by simp_all) hpriv hinst hy
theorem lremM {g : JFrame} {target : State} (X : Stand p l e R s m args below meth c T locs cells slots) (hx : p.tables.exec = Jvm.exec) (hg : g.method = m) {x y : Int64} {rest : List Value} (hd : decode c.code g.pc = .ok (.lrem, 1)) (hs : g.stack = .long y :: .long x :: rest) (hy : y ≠ 0)
    (hr : Steps p.tables e below (T.setTop { g with pc := g.pc + 1, stack := .long (x % y) :: rest }) target) : Steps p.tables e below (T.setTop g) target := XT.lrem X.here hx hg hd hs hy (by rw [lrem_mod]; exact hr)
theorem ldc2D {g : JFrame} {target : State} (X : Stand p l e R s m args below meth c T locs cells slots) (hx : p.tables.exec = Jvm.exec) {own : String} {index : Nat} {b : UInt64} (hown : s.vm.findClass own = some m.cls) (hconst : (Cond.constantDouble own index b).before args s = true) (hg : g.method = m) (hd : decode c.code g.pc = .ok (.ldc2_w index, 3))
    (hr : Steps p.tables e below (T.setTop { g with pc := g.pc + 3, stack := .double b :: g.stack }) target) : Steps p.tables e below (T.setTop g) target := X.ldc2DoubleC hx hown hconst hg hd target hr
theorem own_face {args : Array Value} {C : String} {x z : MethodName} (hsel : (Cond.selects C x z).before args s = true) : ∃ mk k, s.methodNamed? z = some mk ∧ s.vm.classes[mk.cls]? = some k ∧ k.isInterface = false := by
  obtain ⟨c2, r2, m2, -, -, q3, -, kP, hkP, hkPi⟩ := Cond.selects_spec hsel
  exact ⟨_, kP, q3, hkP, hkPi⟩
theorem own_nf {args : Array Value} {C : String} {x y z : MethodName} (hsel : (Cond.selects C x z).before args s = true) (hz : z.cls = y.cls) : NotFace s y := fun r0 h0 => by
  obtain ⟨mk, k, h1, h2, h3⟩ := own_face hsel
  have hc1 := findClass_of_methodNamed h1
  have hc2 := findClass_of_methodNamed h0
  rw [hz, hc2] at hc1
  have e : r0.cls = mk.cls := Option.some.inj hc1
  exact ⟨k, by rw [e]; exact h2, h3⟩
theorem own_selQ {args : Array Value} {C : String} {x y : MethodName} (hsel : (Cond.selects C x y).before args s = true) (hpriv : s.PrivateAt y) (hinst : (Cond.instanceMethod y).before args s = true) (hy : y.cls ≠ "java/lang/invoke/MethodHandle" ∧ y.cls ≠ "java/lang/invoke/VarHandle") : (Cond.selects y.cls y y).before args s = true := by
  obtain ⟨mk, k, h1, h2, h3⟩ := own_face hsel
  exact selects_self_of_private (findClass_of_methodNamed h1) h2 h3 hpriv hinst hy
theorem own_sameM {args : Array Value} {C : String} {x y z : MethodName} (hsel : (Cond.selects C x z).before args s = true) (hz : z.cls = y.cls) (hinst : (Cond.instanceMethod y).before args s = true) (hy : y.cls ≠ "java/lang/invoke/MethodHandle" ∧ y.cls ≠ "java/lang/invoke/VarHandle") : (Cond.sameMethod y.cls y.cls y.name y.desc).before args s = true := by
  obtain ⟨mk, k, h1, h2, h3⟩ := own_face hsel
  obtain ⟨my, methM, hnamed, hmethM, -, -⟩ := Cond.instanceMethod_spec hinst
  have hfound : s.methodFound? y.cls y.name y.desc = some my := State.methodFound?_of_named hnamed hy
  have hc1 := findClass_of_methodNamed h1
  have hc2 := findClass_of_methodNamed hnamed
  rw [hz, hc2] at hc1
  have e : my.cls = mk.cls := Option.some.inj hc1
  simp only [Cond.before, Cond.holds, Cond.value, hc2, hfound, show s.methodNamed? ⟨y.cls, y.name, y.desc⟩ = some my from hnamed, e, h2]
  simp [h3]
end OwnKit
/-- what stood at the start Z stands in h; whatever lies at or above n0 is new since then -/
def OldL (Z : State) (n0 : Nat) (h : Heap) : Prop := Z.heap.size ≤ n0 ∧ Ext Z.heap h
theorem OldL.start (s : State) : OldL s s.heap.size s.heap := ⟨Nat.le_refl _, Nat.le_refl _, fun _ _ q => q⟩
theorem OldL.ext {Z : State} {n0 : Nat} {h h' : Heap} (X : OldL Z n0 h) (E : Ext h h') : OldL Z n0 h' := ⟨X.1, Nat.le_trans X.2.1 E.1, fun x c q => E.2 x c (X.2.2 x c q)⟩
theorem OldL.keep {Z : State} {n0 : Nat} {h h' : Heap} {ws : List Addr} (X : OldL Z n0 h) (K : Keep h h' ws) (q : ∀ x ∈ ws, n0 ≤ x) : OldL Z n0 h' := ⟨X.1, Nat.le_trans X.2.1 K.1, fun x c r => K.2.1 x c (X.2.2 x c r) fun z => absurd (Nat.lt_of_lt_of_le (Array.getElem?_eq_some_iff.mp r).1 X.1) (Nat.not_lt.mpr (q x z))⟩
theorem OldL.wr {Z : State} {n0 : Nat} {h h' : Heap} {a : Addr} {sl : Nat} {v : Value} (X : OldL Z n0 h) (W : Wr h h' a sl v) (q : n0 ≤ a) : OldL Z n0 h' := X.keep (Keep.of_wr W) (allS q all0)
theorem OldL.up {Z : State} {n0 : Nat} {h : Heap} {k : Nat} (X : OldL Z n0 h) (q : n0 ≤ k) : OldL Z k h := ⟨Nat.le_trans X.1 q, X.2⟩
theorem own_Fr {k k' : Nat} {L : List Loc} (q : k ≤ k') (N : Fr k' L) : Fr k L := fun y hy => Nat.le_trans q (N y hy)
section OwnArr
variable {p : Program} {l : Launch} {e : Env} {R : Room} {s : State} {m : MethodId} {args : Array Value} {below : List Frame} {meth : Method} {c : Code} {T Z : State} {locs : List Loc} {cells slots : Nat} {h : Heap} {a : Addr} {k : ClassId} {n j x : Int32} {vs : List Value} {d v : Value} {g : JFrame} {rest : List Value} {target : State}
theorem own_alen {ty : FieldType} (X : Stand p l e R s m args below meth c T locs cells slots) (hx : p.tables.exec = Jvm.exec) (hZ : Z.Warmed39 s.vm) (eT : T.heap = h) (V : Arv Z h a k ty n vs d) (hg : g.method = m) (hs : g.stack = .ref a :: rest) (hd : decode c.code g.pc = .ok (.arraylength, 1))
    (hr : Steps p.tables e below (T.setTop { g with pc := g.pc + 1, stack := .int n :: rest }) target) : Steps p.tables e below (T.setTop g) target := by
  obtain ⟨cl, Ar, q, S, M, H, G⟩ := V
  refine X.arraylength hx (by rw [eT]; exact Ar.1) (State.isArrayOf_alike hZ.alike Ar.2.1) hg hs hd _ ?_
  rw [len_of S M]; exact hr
theorem own_ldB (X : Stand p l e R s m args below meth c T locs cells slots) (hx : p.tables.exec = Jvm.exec) (hZ : Z.Warmed39 s.vm) (eT : T.heap = h) (V : Arv Z h a k .byte n vs d) (hj : ¬ j < 0 ∧ j < n) (hv : vs.getD j.toNatClampNeg d = v) (hg : g.method = m) (hs : g.stack = .int j :: .ref a :: rest) (hd : decode c.code g.pc = .ok (.baload, 1))
    (hr : Steps p.tables e below (T.setTop { g with pc := g.pc + 1, stack := v :: rest }) target) : Steps p.tables e below (T.setTop g) target := by
  obtain ⟨cl, Ar, q, S, M, H, G⟩ := V
  exact X.baloadBytes hx (by rw [eT]; exact Ar.1) (State.isArrayOf_alike hZ.alike Ar.2.1) Ar.2.2 (inb_of S hj) (H.at (inb_of S hj) hv) hg hs hd _ hr
theorem own_ldC (X : Stand p l e R s m args below meth c T locs cells slots) (hx : p.tables.exec = Jvm.exec) (hZ : Z.Warmed39 s.vm) (eT : T.heap = h) (V : Arv Z h a k .char n vs d) (hj : ¬ j < 0 ∧ j < n) (hv : vs.getD j.toNatClampNeg d = v) (hg : g.method = m) (hs : g.stack = .int j :: .ref a :: rest) (hd : decode c.code g.pc = .ok (.caload, 1))
    (hr : Steps p.tables e below (T.setTop { g with pc := g.pc + 1, stack := v :: rest }) target) : Steps p.tables e below (T.setTop g) target := by
  obtain ⟨cl, Ar, q, S, M, H, G⟩ := V
  exact X.caload hx (by rw [eT]; exact Ar.1) (State.isArrayOf_alike hZ.alike Ar.2.1) Ar.2.2 (inb_of S hj) (H.at (inb_of S hj) hv) hg hs hd _ hr
theorem own_stC (X : Stand p l e R s m args below meth c T locs cells slots) (hx : p.tables.exec = Jvm.exec) (hZ : Z.Warmed39 s.vm) (eT : T.heap = h) (V : Arv Z h a k .char n vs d) (hj : ¬ j < 0 ∧ j < n) (i : Nat) (hi : j.toNatClampNeg = i) (hl : i < vs.length) (hg : g.method = m) (hs : g.stack = .int x :: .int j :: .ref a :: rest) (hd : decode c.code g.pc = .ok (.castore, 1)) :
    ∃ T' h', Stand p l e R s m args below meth c T' (locs ++ [⟨a, j.toNatClampNeg⟩]) cells slots ∧ T'.heap = h' ∧ Wr h h' a j.toNatClampNeg (.int (nar .char x)) ∧ Arv Z h' a k .char n (vs.set i (.int (nar .char x))) d ∧ ∀ target, Steps p.tables e below (T'.setTop { g with pc := g.pc + 1, stack := rest }) target → Steps p.tables e below (T.setTop g) target := by
  obtain ⟨cl, Ar, q, S, M, H, G⟩ := V
  obtain ⟨T', h', X', e', W, st⟩ := stC X hx hZ eT Ar (inb_of S hj) hg hs hd
  exact ⟨T', h', X', e', W, Arv.set Ar q S M H G (fits_nar_char _) W i hi hl, st⟩
theorem own_stB (X : Stand p l e R s m args below meth c T locs cells slots) (hx : p.tables.exec = Jvm.exec) (hZ : Z.Warmed39 s.vm) (eT : T.heap = h) (V : Arv Z h a k .byte n vs d) (hj : ¬ j < 0 ∧ j < n) (i : Nat) (hi : j.toNatClampNeg = i) (hl : i < vs.length) (hg : g.method = m) (hs : g.stack = .int x :: .int j :: .ref a :: rest) (hd : decode c.code g.pc = .ok (.bastore, 1)) :
    ∃ T' h', Stand p l e R s m args below meth c T' (locs ++ [⟨a, j.toNatClampNeg⟩]) cells slots ∧ T'.heap = h' ∧ Wr h h' a j.toNatClampNeg (.int x.toInt8.toInt32) ∧ Arv Z h' a k .byte n (vs.set i (.int x.toInt8.toInt32)) d ∧ ∀ target, Steps p.tables e below (T'.setTop { g with pc := g.pc + 1, stack := rest }) target → Steps p.tables e below (T.setTop g) target := by
  obtain ⟨cl, Ar, q, S, M, H, G⟩ := V
  obtain ⟨T', h', X', e', W, st⟩ := stB X hx hZ eT Ar (inb_of S hj) hg hs hd
  exact ⟨T', h', X', e', W, Arv.set Ar q S M H G (fits_nar_byte _) W i hi hl, st⟩
end OwnArr
section OwnSteps
variable {p : Program} {l : Launch} {e : Env} {R : Room} {s : State} {m : MethodId} {args : Array Value} {below : List Frame} {meth : Method} {c : Code} {T : State} {locs : List Loc} {cells slots : Nat} {b : ByteArray} {P : Outcome → State → Prop} {Ls l' : Array Slot} {st : List Value} {pc : Nat}
theorem w_iloadN {pc' : Nat} {k : Fin 4} {v : Int32} (X : Stand p l e R s m args below meth c T locs cells slots) (hx : p.tables.exec = Jvm.exec) (hby : c.code = b) (hd : decode b pc = .ok (.iload_n k, 1)) (hl : Ls[k.val]? = some (.val (.int v))) (hp : pc + 1 = pc') (H : Rch p e below T (mkF m pc' Ls (.int v :: st)) P) : Rch p e below T (mkF m pc Ls st) P := by subst hp; exact Rch.st (fun _ q => XS.iloadN X.here hx rfl (hb hby hd) hl q) H
theorem w_iload {pc' : Nat} {k : Nat} {v : Int32} (X : Stand p l e R s m args below meth c T locs cells slots) (hx : p.tables.exec = Jvm.exec) (hby : c.code = b) (hd : decode b pc = .ok (.iload k, 2)) (hl : Ls[k]? = some (.val (.int v))) (hp : pc + 2 = pc') (H : Rch p e below T (mkF m pc' Ls (.int v :: st)) P) : Rch p e below T (mkF m pc Ls st) P := by subst hp; exact Rch.st (fun _ q => XS.iload X.here hx rfl (hb hby hd) hl q) H
theorem w_istoreN {pc' : Nat} {k : Fin 4} {v : Int32} (X : Stand p l e R s m args below meth c T locs cells slots) (hx : p.tables.exec = Jvm.exec) (hby : c.code = b) (hd : decode b pc = .ok (.istore_n k, 1)) (hl : storeLocals Ls k.val (.int v) = some l') (hp : pc + 1 = pc') (H : Rch p e below T (mkF m pc' l' st) P) : Rch p e below T (mkF m pc Ls (.int v :: st)) P := by subst hp; exact Rch.st (fun _ q => XS.istoreN X.here hx rfl (hb hby hd) rfl hl q) H
theorem w_istore {pc' : Nat} {k : Nat} {v : Int32} (X : Stand p l e R s m args below meth c T locs cells slots) (hx : p.tables.exec = Jvm.exec) (hby : c.code = b) (hd : decode b pc = .ok (.istore k, 2)) (hl : storeLocals Ls k (.int v) = some l') (hp : pc + 2 = pc') (H : Rch p e below T (mkF m pc' l' st) P) : Rch p e below T (mkF m pc Ls (.int v :: st)) P := by subst hp; exact Rch.st (fun _ q => XS.istore X.here hx rfl (hb hby hd) rfl hl q) H
theorem w_aloadN {pc' : Nat} {k : Fin 4} {v : Value} (X : Stand p l e R s m args below meth c T locs cells slots) (hx : p.tables.exec = Jvm.exec) (hby : c.code = b) (hd : decode b pc = .ok (.aload_n k, 1)) (hl : Ls[k.val]? = some (.val v)) (hv : v.isRef = true) (hp : pc + 1 = pc') (H : Rch p e below T (mkF m pc' Ls (v :: st)) P) : Rch p e below T (mkF m pc Ls st) P := by subst hp; exact Rch.st (fun _ q => XS.aloadN X.here hx rfl (hb hby hd) hl hv q) H
theorem w_aload {pc' : Nat} {k : Nat} {v : Value} (X : Stand p l e R s m args below meth c T locs cells slots) (hx : p.tables.exec = Jvm.exec) (hby : c.code = b) (hd : decode b pc = .ok (.aload k, 2)) (hl : Ls[k]? = some (.val v)) (hv : v.isRef = true) (hp : pc + 2 = pc') (H : Rch p e below T (mkF m pc' Ls (v :: st)) P) : Rch p e below T (mkF m pc Ls st) P := by subst hp; exact Rch.st (fun _ q => XS.aload X.here hx rfl (hb hby hd) hl hv q) H
theorem w_astoreN {pc' : Nat} {k : Fin 4} {v : Value} (X : Stand p l e R s m args below meth c T locs cells slots) (hx : p.tables.exec = Jvm.exec) (hby : c.code = b) (hd : decode b pc = .ok (.astore_n k, 1)) (hv : v.isRef = true) (hl : storeLocals Ls k.val v = some l') (hp : pc + 1 = pc') (H : Rch p e below T (mkF m pc' l' st) P) : Rch p e below T (mkF m pc Ls (v :: st)) P := by subst hp; exact Rch.st (fun _ q => XS.astoreN X.here hx rfl (hb hby hd) rfl hv hl q) H
theorem w_astore {pc' : Nat} {k : Nat} {v : Value} (X : Stand p l e R s m args below meth c T locs cells slots) (hx : p.tables.exec = Jvm.exec) (hby : c.code = b) (hd : decode b pc = .ok (.astore k, 2)) (hv : v.isRef = true) (hl : storeLocals Ls k v = some l') (hp : pc + 2 = pc') (H : Rch p e below T (mkF m pc' l' st) P) : Rch p e below T (mkF m pc Ls (v :: st)) P := by subst hp; exact Rch.st (fun _ q => XS.astore X.here hx rfl (hb hby hd) rfl hv hl q) H
theorem w_iconst {pc' : Nat} {i : Int} {v : Int32} (X : Stand p l e R s m args below meth c T locs cells slots) (hx : p.tables.exec = Jvm.exec) (hby : c.code = b) (hd : decode b pc = .ok (.iconst i, 1)) (hv : Int32.ofInt i = v) (hp : pc + 1 = pc') (H : Rch p e below T (mkF m pc' Ls (.int v :: st)) P) : Rch p e below T (mkF m pc Ls st) P := by subst hp hv; exact Rch.st (fun _ q => XS.iconst X.here hx rfl (hb hby hd)  q) H
theorem w_bipush {pc' : Nat} {i : Int} {v : Int32} (X : Stand p l e R s m args below meth c T locs cells slots) (hx : p.tables.exec = Jvm.exec) (hby : c.code = b) (hd : decode b pc = .ok (.bipush i, 2)) (hv : (Int8.ofInt i).toInt32 = v) (hp : pc + 2 = pc') (H : Rch p e below T (mkF m pc' Ls (.int v :: st)) P) : Rch p e below T (mkF m pc Ls st) P := by subst hp hv; exact Rch.st (fun _ q => XS.bipush X.here hx rfl (hb hby hd)  q) H
theorem w_sipush {pc' : Nat} {i : Int} {v : Int32} (X : Stand p l e R s m args below meth c T locs cells slots) (hx : p.tables.exec = Jvm.exec) (hby : c.code = b) (hd : decode b pc = .ok (.sipush i, 3)) (hv : (Int16.ofInt i).toInt32 = v) (hp : pc + 3 = pc') (H : Rch p e below T (mkF m pc' Ls (.int v :: st)) P) : Rch p e below T (mkF m pc Ls st) P := by subst hp hv; exact Rch.st (fun _ q => XS.sipush X.here hx rfl (hb hby hd)  q) H
theorem w_aconstNull {pc' : Nat}  (X : Stand p l e R s m args below meth c T locs cells slots) (hx : p.tables.exec = Jvm.exec) (hby : c.code = b) (hd : decode b pc = .ok (.aconst_null, 1)) (hp : pc + 1 = pc') (H : Rch p e below T (mkF m pc' Ls (.null :: st)) P) : Rch p e below T (mkF m pc Ls st) P := by subst hp; exact Rch.st (fun _ q => XS.aconstNull X.here hx rfl (hb hby hd)  q) H
theorem w_iadd {pc' : Nat} {x y : Int32} (X : Stand p l e R s m args below meth c T locs cells slots) (hx : p.tables.exec = Jvm.exec) (hby : c.code = b) (hd : decode b pc = .ok (.iadd, 1)) (hp : pc + 1 = pc') (H : Rch p e below T (mkF m pc' Ls (.int (x + y) :: st)) P) : Rch p e below T (mkF m pc Ls (.int y :: .int x :: st)) P := by subst hp; exact Rch.st (fun _ q => XS.iadd X.here hx rfl (hb hby hd) rfl q) H
theorem w_isub {pc' : Nat} {x y : Int32} (X : Stand p l e R s m args below meth c T locs cells slots) (hx : p.tables.exec = Jvm.exec) (hby : c.code = b) (hd : decode b pc = .ok (.isub, 1)) (hp : pc + 1 = pc') (H : Rch p e below T (mkF m pc' Ls (.int (x - y) :: st)) P) : Rch p e below T (mkF m pc Ls (.int y :: .int x :: st)) P := by subst hp; exact Rch.st (fun _ q => XS.isub X.here hx rfl (hb hby hd) rfl q) H
theorem w_imul {pc' : Nat} {x y : Int32} (X : Stand p l e R s m args below meth c T locs cells slots) (hx : p.tables.exec = Jvm.exec) (hby : c.code = b) (hd : decode b pc = .ok (.imul, 1)) (hp : pc + 1 = pc') (H : Rch p e below T (mkF m pc' Ls (.int (x * y) :: st)) P) : Rch p e below T (mkF m pc Ls (.int y :: .int x :: st)) P := by subst hp; exact Rch.st (fun _ q => XS.imul X.here hx rfl (hb hby hd) rfl q) H
theorem w_iand {pc' : Nat} {x y : Int32} (X : Stand p l e R s m args below meth c T locs cells slots) (hx : p.tables.exec = Jvm.exec) (hby : c.code = b) (hd : decode b pc = .ok (.iand, 1)) (hp : pc + 1 = pc') (H : Rch p e below T (mkF m pc' Ls (.int (x &&& y) :: st)) P) : Rch p e below T (mkF m pc Ls (.int y :: .int x :: st)) P := by subst hp; exact Rch.st (fun _ q => XS.iand X.here hx rfl (hb hby hd) rfl q) H
theorem w_ishl {pc' : Nat} {x y : Int32} (X : Stand p l e R s m args below meth c T locs cells slots) (hx : p.tables.exec = Jvm.exec) (hby : c.code = b) (hd : decode b pc = .ok (.ishl, 1)) (hp : pc + 1 = pc') (H : Rch p e below T (mkF m pc' Ls (.int (x <<< (y &&& 31)) :: st)) P) : Rch p e below T (mkF m pc Ls (.int y :: .int x :: st)) P := by subst hp; exact Rch.st (fun _ q => XT.ishl X.here hx rfl (hb hby hd) rfl q) H
theorem w_ishr {pc' : Nat} {x y : Int32} (X : Stand p l e R s m args below meth c T locs cells slots) (hx : p.tables.exec = Jvm.exec) (hby : c.code = b) (hd : decode b pc = .ok (.ishr, 1)) (hp : pc + 1 = pc') (H : Rch p e below T (mkF m pc' Ls (.int (x >>> (y &&& 31)) :: st)) P) : Rch p e below T (mkF m pc Ls (.int y :: .int x :: st)) P := by subst hp; exact Rch.st (fun _ q => XT.ishr X.here hx rfl (hb hby hd) rfl q) H
theorem w_iushr {pc' : Nat} {x y : Int32} (X : Stand p l e R s m args below meth c T locs cells slots) (hx : p.tables.exec = Jvm.exec) (hby : c.code = b) (hd : decode b pc = .ok (.iushr, 1)) (hp : pc + 1 = pc') (H : Rch p e below T (mkF m pc' Ls (.int (XT.ushr x y) :: st)) P) : Rch p e below T (mkF m pc Ls (.int y :: .int x :: st)) P := by subst hp; exact Rch.st (fun _ q => XT.iushr X.here hx rfl (hb hby hd) rfl q) H
theorem w_irem {pc' : Nat} {x y : Int32} (X : Stand p l e R s m args below meth c T locs cells slots) (hx : p.tables.exec = Jvm.exec) (hby : c.code = b) (hd : decode b pc = .ok (.irem, 1)) (hy : y ≠ 0) (hp : pc + 1 = pc') (H : Rch p e below T (mkF m pc' Ls (.int (x % y) :: st)) P) : Rch p e below T (mkF m pc Ls (.int y :: .int x :: st)) P := by subst hp; exact Rch.st (fun _ q => iremM X hx rfl (hb hby hd) rfl hy q) H
theorem w_i2c {pc' : Nat} {x : Int32} (X : Stand p l e R s m args below meth c T locs cells slots) (hx : p.tables.exec = Jvm.exec) (hby : c.code = b) (hd : decode b pc = .ok (.i2c, 1)) (hp : pc + 1 = pc') (H : Rch p e below T (mkF m pc' Ls (.int (nar .char x) :: st)) P) : Rch p e below T (mkF m pc Ls (.int x :: st)) P := by subst hp; exact Rch.st (fun _ q => XT.i2c X.here hx rfl (hb hby hd) rfl q) H
theorem w_i2b {pc' : Nat} {x : Int32} (X : Stand p l e R s m args below meth c T locs cells slots) (hx : p.tables.exec = Jvm.exec) (hby : c.code = b) (hd : decode b pc = .ok (.i2b, 1)) (hp : pc + 1 = pc') (H : Rch p e below T (mkF m pc' Ls (.int (x.toInt8.toInt32) :: st)) P) : Rch p e below T (mkF m pc Ls (.int x :: st)) P := by subst hp; exact Rch.st (fun _ q => XT.i2b X.here hx rfl (hb hby hd) rfl q) H
theorem w_dup {pc' : Nat} {v : Value} (X : Stand p l e R s m args below meth c T locs cells slots) (hx : p.tables.exec = Jvm.exec) (hby : c.code = b) (hd : decode b pc = .ok (.dup, 1)) (hc : v.category = 1) (hp : pc + 1 = pc') (H : Rch p e below T (mkF m pc' Ls (v :: v :: st)) P) : Rch p e below T (mkF m pc Ls (v :: st)) P := by subst hp; exact Rch.st (fun _ q => XS.dup X.here hx rfl (hb hby hd) rfl hc q) H
theorem w_pop {pc' : Nat} {v : Value} (X : Stand p l e R s m args below meth c T locs cells slots) (hx : p.tables.exec = Jvm.exec) (hby : c.code = b) (hd : decode b pc = .ok (.pop, 1)) (hc : v.category = 1) (hp : pc + 1 = pc') (H : Rch p e below T (mkF m pc' Ls st) P) : Rch p e below T (mkF m pc Ls (v :: st)) P := by subst hp; exact Rch.st (fun _ q => XT.pop X.here hx rfl (hb hby hd) rfl hc q) H
theorem w_iinc {pc' : Nat} {k : Nat} {i : Int} {v : Int32} {w : Int32} (X : Stand p l e R s m args below meth c T locs cells slots) (hx : p.tables.exec = Jvm.exec) (hby : c.code = b) (hd : decode b pc = .ok (.iinc k i, 3)) (hl : Ls[k]? = some (.val (.int v))) (hw : v + Int32.ofInt i = w) (hs : storeLocals Ls k (.int w) = some l') (hp : pc + 3 = pc') (H : Rch p e below T (mkF m pc' l' st) P) : Rch p e below T (mkF m pc Ls st) P := by subst hp hw; exact Rch.st (fun _ q => XS.iinc X.here hx rfl (hb hby hd) hl hs q) H
theorem w_goto {pc' : Nat} {o : Int}  (X : Stand p l e R s m args below meth c T locs cells slots) (hx : p.tables.exec = Jvm.exec) (hby : c.code = b) (hd : decode b pc = .ok (.goto o, 3)) (ho : 0 ≤ (pc : Int) + o ∧ ((pc : Int) + o).toNat = pc') (H : Rch p e below T (mkF m pc' Ls st) P) : Rch p e below T (mkF m pc Ls st) P := Rch.st (fun _ q => XS.goto X.here hx rfl (pc0 := pc) rfl (hb hby hd)  ho.1 ho.2 q) H
theorem w_ifYes {pc' : Nat} {o : Int} {cd : ClassFile.Cond} {x : Int32} (X : Stand p l e R s m args below meth c T locs cells slots) (hx : p.tables.exec = Jvm.exec) (hby : c.code = b) (hd : decode b pc = .ok (.ifCond cd o, 3)) (hc : ifCond.holds cd x = true) (ho : 0 ≤ (pc : Int) + o ∧ ((pc : Int) + o).toNat = pc') (H : Rch p e below T (mkF m pc' Ls st) P) : Rch p e below T (mkF m pc Ls (.int x :: st)) P := Rch.st (fun _ q => XS.ifYes X.here hx rfl (pc0 := pc) rfl (hb hby hd) rfl hc ho.1 ho.2 q) H
theorem w_icmpYes {pc' : Nat} {o : Int} {cd : ClassFile.Cond} {x y : Int32} (X : Stand p l e R s m args below meth c T locs cells slots) (hx : p.tables.exec = Jvm.exec) (hby : c.code = b) (hd : decode b pc = .ok (.if_icmp cd o, 3)) (hc : if_icmp.holds cd x y = true) (ho : 0 ≤ (pc : Int) + o ∧ ((pc : Int) + o).toNat = pc') (H : Rch p e below T (mkF m pc' Ls st) P) : Rch p e below T (mkF m pc Ls (.int y :: .int x :: st)) P := Rch.st (fun _ q => XS.icmpYes X.here hx rfl (pc0 := pc) rfl (hb hby hd) rfl hc ho.1 ho.2 q) H
theorem w_nonnullYes {pc' : Nat} {o : Int} {v : Value} (X : Stand p l e R s m args below meth c T locs cells slots) (hx : p.tables.exec = Jvm.exec) (hby : c.code = b) (hd : decode b pc = .ok (.ifnonnull o, 3)) (h1 : v.isRef = true) (hv : ¬ v = .null) (ho : 0 ≤ (pc : Int) + o ∧ ((pc : Int) + o).toNat = pc') (H : Rch p e below T (mkF m pc' Ls st) P) : Rch p e below T (mkF m pc Ls (v :: st)) P := Rch.st (fun _ q => XT.nonnullYes X.here hx rfl (pc0 := pc) rfl (hb hby hd) rfl h1 hv ho.1 ho.2 q) H
theorem w_ifNo {pc' : Nat} {o : Int} {cd : ClassFile.Cond} {x : Int32} (X : Stand p l e R s m args below meth c T locs cells slots) (hx : p.tables.exec = Jvm.exec) (hby : c.code = b) (hd : decode b pc = .ok (.ifCond cd o, 3)) (hc : ifCond.holds cd x = false) (hp : pc + 3 = pc') (H : Rch p e below T (mkF m pc' Ls st) P) : Rch p e below T (mkF m pc Ls (.int x :: st)) P := by subst hp; exact Rch.st (fun _ q => XS.ifNo X.here hx rfl (hb hby hd) rfl hc q) H
theorem w_icmpNo {pc' : Nat} {o : Int} {cd : ClassFile.Cond} {x y : Int32} (X : Stand p l e R s m args below meth c T locs cells slots) (hx : p.tables.exec = Jvm.exec) (hby : c.code = b) (hd : decode b pc = .ok (.if_icmp cd o, 3)) (hc : if_icmp.holds cd x y = false) (hp : pc + 3 = pc') (H : Rch p e below T (mkF m pc' Ls st) P) : Rch p e below T (mkF m pc Ls (.int y :: .int x :: st)) P := by subst hp; exact Rch.st (fun _ q => XS.icmpNo X.here hx rfl (hb hby hd) rfl hc q) H
end OwnSteps
section OwnWide
variable {p : Program} {l : Launch} {e : Env} {R : Room} {s : State} {m : MethodId} {args : Array Value} {below : List Frame} {meth : Method} {c : Code} {T Z : State} {locs : List Loc} {cells slots : Nat} {vm1 : Vm} {Ts Ts' : List String} {a0 : Array Value} {h : Heap}
/-- a return under the wide frame -/
def FinW (s : State) (Q : Option Value → Heap → Vm → List Loc → Prop) (K N : Nat) (o : Outcome) (U : State) : Prop := ∃ v L, o = .returned v ∧ Q v U.heap U.vm L ∧ ReturnedEndW s o U L K N
theorem Rch.retVW (X : Stand p l e R (s.setVm vm1) m args below meth c T locs cells slots) (hx : p.tables.exec = Jvm.exec) {k0 : Nat} (hS : s.Since vm1 k0) (hk0 : k0 ≤ T.heap.size) {pc : Nat} {Ls : Array Slot} {w : Value} {t : FieldType} {i : Instr} {rest : List Value} {Q : Option Value → Heap → Vm → List Loc → Prop} {K N : Nat} (hret : meth.sig.returnType = some t) (hn : narrow t w = w)
    (hi : (i = .ireturn ∧ (t = .int ∨ t = .boolean ∨ t = .byte ∨ t = .char ∨ t = .short) ∧ ∃ z, w = .int z) ∨ (i = .lreturn ∧ t = .long ∧ ∃ z, w = .long z) ∨ (i = .dreturn ∧ t = .double ∧ ∃ z, w = .double z) ∨ (i = .freturn ∧ t = .float ∧ ∃ z, w = .float z) ∨ (i = .areturn ∧ t.isReference = true ∧ w.isRef = true))
    (hd : decode c.code pc = .ok (i, 1)) (hq : Q (some w) T.heap T.vm locs) (hk : cells ≤ K) (hs : slots ≤ N) (hlocks : meth.locks = false := by first | assumption | exact BodyLoose.notSynchronized (by assumption) | exact Body.notSynchronized (by assumption)) : Rch p e below T (mkF m pc Ls (w :: rest)) (FinW s Q K N) := by
  obtain ⟨fs, hr, hrun, hended, h1, h2, h3, h4⟩ := X.leaveW hS hk0 (v := some w) (fun h => by rw [hret] at h; cases h) hlocks
  exact ⟨_, _, retOut X hx hret hn hi hd hr, hrun, hended, _, _, rfl, hq, h1, h2, h3, h4.mono hk hs⟩
theorem Rch.ret0W (X : Stand p l e R (s.setVm vm1) m args below meth c T locs cells slots) (hx : p.tables.exec = Jvm.exec) {k0 : Nat} (hS : s.Since vm1 k0) (hk0 : k0 ≤ T.heap.size) {pc : Nat} {Ls : Array Slot} {Q : Option Value → Heap → Vm → List Loc → Prop} {K N : Nat} (hret : meth.sig.returnType = none)
    (hd : decode c.code pc = .ok (.return_, 1)) (hq : Q none T.heap T.vm locs) (hk : cells ≤ K) (hs : slots ≤ N) (hlocks : meth.locks = false := by first | assumption | exact BodyLoose.notSynchronized (by assumption) | exact Body.notSynchronized (by assumption)) : Rch p e below T (mkF m pc Ls []) (FinW s Q K N) := by
  obtain ⟨fs, hr, hrun, hended, h1, h2, h3, h4⟩ := X.leaveW hS hk0 (v := none) (fun _ => rfl) hlocks
  exact ⟨_, _, X.returnOut hx hret hd hr, hrun, hended, _, _, rfl, hq, h1, h2, h3, h4.mono hk hs⟩
theorem own_ib {vm : Vm} (I : IB Z s.vm Ts) (hW : s.WarmedH vm) : IB Z vm Ts := by
  obtain ⟨more, h1, h2⟩ := I
  exact ⟨more, by rw [hW.interned_eq]; exact h1, h2⟩
theorem own_ib_mono {vm : Vm} (I : IB Z vm Ts) (hs : ∀ t ∈ Ts, t ∈ Ts') : IB Z vm Ts' := by
  obtain ⟨more, h1, h2⟩ := I
  exact ⟨more, h1, fun q hq => let ⟨t, ht, hd⟩ := h2 q hq; ⟨t, hs t ht, hd⟩⟩
theorem backOfI {y : MethodName} {bytes : ByteArray} {maxL : Nat} {ret : Option FieldType} {rm : Room} {len W : Nat} {as' : Array Value} {Q : Option Value → Heap → Vm → List Loc → Prop}
    (hM : MetFree l y (head1 [Cond.code y bytes maxL ret] rm) (fun a U => a = as' ∧ Z.Warmed39 U.vm ∧ U.heap = h ∧ IB Z U.vm Ts) (fun _ _ _ _ _ => True) (fun _ U o U' => ∃ v L, o = .returned v ∧ Q v U'.heap U'.vm L ∧ ReturnedEndW U o U' L rm.cells rm.slots))
    (hZ : Z.Warmed39 s.vm) (hI : IB Z s.vm Ts) (wc : (Cond.code y bytes maxL ret).before a0 Z = true) (wz : (Cond.initialized y.cls).before a0 Z = true) (hf : rm.frames + 1 ≤ R.frames) (hl : W + (maxL + 11) + rm.locals ≤ R.locals) :
    BackS l R p e below s args y len W (fun A a => a = as' ∧ A.U.heap = h ∧ A.cells + rm.cells ≤ R.cells ∧ A.slots + rm.slots ≤ R.slots)
      (fun A _ v B => ∃ L, Q v B.U.heap B.U.vm L ∧ B.locs = A.locs ++ L ∧ B.cells = A.cells + rm.cells ∧ B.slots = A.slots + rm.slots) :=
  BackS.of_freeW (bytes := bytes) (maxL := maxL) (ret := ret) (E := fun _ _ o t L k n => k = rm.cells ∧ n = rm.slots ∧ ∃ v, o = .returned v ∧ Q v t.heap t.vm L) hM hf hl
    (fun m meth c A a Y hp => have hU : Z.Warmed39 A.U.vm := wtrans hZ Y.warmed
      ⟨by show (Cond.and _ .tt).before a A.U = true; rw [Cond.before_and, mv hU wc]; rfl, mv hU wc, mv hU wz, hp.2.2.1, hp.2.2.2⟩)
    (fun m meth c A a g mk Y hp => ⟨hp.1, wtrans hZ Y.warmed, hp.2.1, own_ib hI Y.warmed⟩) (fun _ _ _ _ _ _ _ _ _ => trivial)
    (fun _ _ _ _ ⟨v, L, h1, h2, h3⟩ => ⟨L, _, _, h3, rfl, rfl, v, h1, h2⟩)
    (fun m meth c A a g mk v t L k n Y hp _ _ ⟨e1, e2, v', e3, e4⟩ => by cases e3; subst e1 e2; exact ⟨L, e4, rfl, rfl, rfl⟩)
theorem backOfV {PV : Vm → Prop} {y : MethodName} {bytes : ByteArray} {maxL : Nat} {ret : Option FieldType} {rm : Room} {len W : Nat} {as' : Array Value} {Q : Option Value → Heap → Vm → List Loc → Prop}
    (hM : MetFree l y (head1 [Cond.code y bytes maxL ret] rm) (fun a U => a = as' ∧ Z.Warmed39 U.vm ∧ U.heap = h ∧ PV U.vm) (fun _ _ _ _ _ => True) (fun _ U o U' => ∃ v L, o = .returned v ∧ Q v U'.heap U'.vm L ∧ ReturnedEndW U o U' L rm.cells rm.slots))
    (hZ : Z.Warmed39 s.vm) (hI : ∀ vm, s.WarmedH vm → PV vm) (wc : (Cond.code y bytes maxL ret).before a0 Z = true) (wz : (Cond.initialized y.cls).before a0 Z = true) (hf : rm.frames + 1 ≤ R.frames) (hl : W + (maxL + 11) + rm.locals ≤ R.locals) :
    BackS l R p e below s args y len W (fun A a => a = as' ∧ A.U.heap = h ∧ A.cells + rm.cells ≤ R.cells ∧ A.slots + rm.slots ≤ R.slots)
      (fun A _ v B => ∃ L, Q v B.U.heap B.U.vm L ∧ B.locs = A.locs ++ L ∧ B.cells = A.cells + rm.cells ∧ B.slots = A.slots + rm.slots) :=
  BackS.of_freeW (bytes := bytes) (maxL := maxL) (ret := ret) (E := fun _ _ o t L k n => k = rm.cells ∧ n = rm.slots ∧ ∃ v, o = .returned v ∧ Q v t.heap t.vm L) hM hf hl
    (fun m meth c A a Y hp => have hU : Z.Warmed39 A.U.vm := wtrans hZ Y.warmed
      ⟨by show (Cond.and _ .tt).before a A.U = true; rw [Cond.before_and, mv hU wc]; rfl, mv hU wc, mv hU wz, hp.2.2.1, hp.2.2.2⟩)
    (fun m meth c A a g mk Y hp => ⟨hp.1, wtrans hZ Y.warmed, hp.2.1, hI _ Y.warmed⟩) (fun _ _ _ _ _ _ _ _ _ => trivial)
    (fun _ _ _ _ ⟨v, L, h1, h2, h3⟩ => ⟨L, _, _, h3, rfl, rfl, v, h1, h2⟩)
    (fun m meth c A a g mk v t L k n Y hp _ _ ⟨e1, e2, v', e3, e4⟩ => by cases e3; subst e1 e2; exact ⟨L, e4, rfl, rfl, rfl⟩)
/-- a booked literal stays booked, said of the start's state -/
theorem own_lit {own : String} {index : Nat} {a : Addr} {vm vm' : Vm} (L : Lit (Z.setVm vm) own index a) (hW : (s.setVm vm).Warmed39 vm') : Lit (Z.setVm vm') own index a := Lit.stays (s := s) (vm0 := vm) (vm1 := vm') L hW
end OwnWide
theorem nlt {a b c : Nat} (h : a < b) (k : b ≤ c) : a ≠ c := Nat.ne_of_lt (Nat.lt_of_lt_of_le h k)
theorem wi {Z : State} {a0 : Array Value} (hw : ∀ d ∈ tables_1, d.before a0 Z = true) (i : Nat) {d : Jvm.Cond} (h : tables_1[i]? = some d) : d.before a0 Z = true := hw _ (List.mem_of_getElem? h)
def own_by (c : Int32) : Int32 := (c.toInt8.toInt32).toInt8.toInt32
def own_min32 (x y : Int32) : Int32 := if y < x then y else x
/-- the first n values of an array's list -/
def own_take (vs : List Value) (d : Value) (n : Nat) : List Value := (List.range n).map fun i => vs.getD i d
theorem own_take_all (vs : List Value) (d : Value) : own_take vs d vs.length = vs := by
  unfold own_take
  apply List.ext_getElem
  · simp
  · intro i h1 h2
    simp [List.getD, List.getElem?_eq_getElem h2]
theorem own_z0 : (0 : Int32).toNatClampNeg = 0 := by decide
theorem own_take_hus (vs : List Value) (d : Value) (n : Nat) : own_take vs d n = (List.range n).map fun i => vs.getD ((0 : Int32).toNatClampNeg + i) d := by
  rw [own_z0]; simp [own_take]
theorem own_take_len (vs : List Value) (d : Value) (n : Nat) : (own_take vs d n).length = n := by simp [own_take]
theorem own_sh0 (x : Int32) : x >>> ((0 : Int32) &&& 31) = x := by
  apply Int32.toInt_inj.mp
  rw [c_ishr x 0 0 (by decide)]; simp
theorem own_sl0 (x : Int32) : x <<< ((0 : Int32) &&& 31) = x := by
  have h := c_ishl x 0 0 (by decide)
  have r := rng32 x
  have r2 := rng32 (x <<< ((0 : Int32) &&& 31))
  generalize x <<< ((0 : Int32) &&& 31) = y at h r2 ⊢
  apply Int32.toInt_inj.mp
  simp only [show ((2 ^ 0 : Nat) : Int) = 1 from rfl] at h
  omega
theorem own_16 : (16 : Int32).toNatClampNeg = 16 := by decide
/-- a char of one byte -/
def Ch8 (c : Int32) : Prop := (¬ (255 : Int32) < c) ∧ nar .char c = c ∧ nar .char (own_by c &&& (255 : Int32)) = c
theorem Ch8.le {c : Int32} (h : Ch8 c) : ¬ (255 : Int32) < c := h.1
theorem Ch8.nr {c : Int32} (h : Ch8 c) : nar .char c = c := h.2.1
theorem Ch8.by8 {c : Int32} (h : Ch8 c) : nar .char (own_by c &&& (255 : Int32)) = c := h.2.2
theorem own_ch8 (x : Int32) : Ch8 (nar .char (x &&& 255)) := by
  have h1 := c_and x 255 (by decide)
  generalize x &&& 255 = r at h1 ⊢
  have z255 : (255 : Int32).toInt = 255 := by decide
  rw [z255] at h1
  obtain ⟨n, hn⟩ : ∃ n : Nat, r.toInt = n := ⟨r.toInt.toNat, by omega⟩
  have hlt : n < 256 := by omega
  have hi : ∀ i : Fin 256, (Int32.ofNat i.1).toInt = i.1 := by decide +kernel
  have hr : r = Int32.ofNat n := Int32.toInt_inj.mp (hn.trans (hi ⟨n, hlt⟩).symm)
  have key : ∀ i : Fin 256, (¬ (255 : Int32) < nar .char (Int32.ofNat i.1)) ∧ nar .char (nar .char (Int32.ofNat i.1)) = nar .char (Int32.ofNat i.1) ∧ nar .char (own_by (nar .char (Int32.ofNat i.1)) &&& (255 : Int32)) = nar .char (Int32.ofNat i.1) := by decide +kernel
  rw [hr]; exact key ⟨n, hlt⟩
theorem own_and3 (x : Int32) : x &&& 3 = 0 ∨ x &&& 3 = 1 ∨ x &&& 3 = 2 ∨ x &&& 3 = 3 := by
  have h := c_and x 3 (by decide)
  have z3 : (3 : Int32).toInt = 3 := by decide
  generalize x &&& 3 = r at h ⊢
  have h4 : r.toInt = 0 ∨ r.toInt = 1 ∨ r.toInt = 2 ∨ r.toInt = 3 := by omega
  rcases h4 with h | h | h | h
  · exact Or.inl (Int32.toInt_inj.mp h)
  · exact Or.inr (Or.inl (Int32.toInt_inj.mp h))
  · exact Or.inr (Or.inr (Or.inl (Int32.toInt_inj.mp h)))
  · exact Or.inr (Or.inr (Or.inr (Int32.toInt_inj.mp h)))
theorem own_rem3 (x : Int32) : (x &&& 3) % 3 = 0 ∨ (x &&& 3) % 3 = 1 ∨ (x &&& 3) % 3 = 2 := by
  rcases own_and3 x with h | h | h | h <;> rw [h] <;> decide
def own_cat (qv : List Value) (qd : Value) (ql : Int32) (nv : List Value) (nd : Value) (nl : Int32) : List Value := (([] ++ own_take qv qd ql.toNatClampNeg) ++ own_take nv nd nl.toNatClampNeg) ++ own_take qv qd ql.toNatClampNeg
theorem own_cat_len (qv : List Value) (qd : Value) (ql : Int32) (nv : List Value) (nd : Value) (nl : Int32) : (own_cat qv qd ql nv nd nl).length = ql.toNatClampNeg + nl.toNatClampNeg + ql.toNatClampNeg := by simp [own_cat, own_take, Nat.add_assoc]
theorem own_t0 (d : Value) : own_take [] d (0 : Int32).toNatClampNeg = [] := by rw [show (0 : Int32).toNatClampNeg = 0 from by decide]; rfl
theorem own_t1 (a d : Value) : own_take [a] d (1 : Int32).toNatClampNeg = [a] := by rw [show (1 : Int32).toNatClampNeg = 1 from by decide]; rfl
theorem own_t2 (a b d : Value) : own_take [a, b] d (2 : Int32).toNatClampNeg = [a, b] := by rw [show (2 : Int32).toNatClampNeg = 2 from by decide]; rfl
theorem own_t3 (a b e d : Value) : own_take [a, b, e] d (3 : Int32).toNatClampNeg = [a, b, e] := by rw [show (3 : Int32).toNatClampNeg = 3 from by decide]; rfl
theorem djdk42m152_0 : decode jdk_42_method_152_code 0 = .ok (.getstatic 38, 3) := by decide +kernel
theorem djdk42m152_3 : decode jdk_42_method_152_code 3 = .ok (.ifCond .eq 10, 3) := by decide +kernel
theorem djdk42m152_6 : decode jdk_42_method_152_code 6 = .ok (.aload_n 0, 1) := by decide +kernel
theorem djdk42m152_7 : decode jdk_42_method_152_code 7 = .ok (.getfield 15, 3) := by decide +kernel
theorem djdk42m152_10 : decode jdk_42_method_152_code 10 = .ok (.goto 4, 3) := by decide +kernel
theorem djdk42m152_14 : decode jdk_42_method_152_code 14 = .ok (.ireturn, 1) := by decide +kernel
theorem pn_java_lang_String : plainName "java/lang/String" = true := by first | (simp [plainName, overriddenIn]; done) | decide +kernel
theorem ef_rm_coder (m : MethodId) (G1 : Int32) (aa : Addr) (cd : Int32)  : entryFrame m #[(.ref aa)] 1 = mkF m 0 #[.val (.ref aa)] [] := by  first | (simp [entryFrame, mkF, argsToLocals, Value.category, maxLocals]; done) | rfl
def Q_rm_coder (Z : State) (G1 : Int32) (aa : Addr) (cd : Int32) (h0 : Heap) (n0 : Nat) (v : Option Value) (h : Heap) (L : List Loc) : Prop := (v = some (.int cd)) ∧ (Fr n0 L) ∧ (h = h0)
set_option maxRecDepth 65536 in
set_option maxHeartbeats 40000000 in
theorem rm_coder (l : Launch) (Z : State) (a0 : Array Value) (hw : ∀ d ∈ tables_1, d.before a0 Z = true) (ws : List Jvm.Cond) (G1 : Int32) (aa : Addr) (cd : Int32) (h0 : Heap) (n0 : Nat) (Z0 : n0 ≤ h0.size) (O2 : Sta Z Z.heap "java/lang/String" "COMPACT_STRINGS" "Z" (.int G1)) (P5 : ¬ G1 = 0) (f2 : Fld Z h0 aa "java/lang/String" "coder" "B" (.int cd)) (hcd : cd = 0 ∨ cd = 1) (Old0 : OldL Z n0 h0) :
    MetFree l (⟨"java/lang/String", "coder", "()B"⟩ : MethodName) (head1 (Jvm.Cond.code (⟨"java/lang/String", "coder", "()B"⟩ : MethodName) jdk_42_method_152_code 1 (some .byte) :: ws) ({ frames := 0, cells := 0, slots := 0, locals := 0 } : Room)) (fun a U => a = #[(.ref aa)] ∧ Z.Warmed39 U.vm ∧ U.heap = h0) (fun _ _ _ _ _ => True) (fun _ U o U' => ∃ v L, o = .returned v ∧ Q_rm_coder Z G1 aa cd h0 n0 v U'.heap L ∧ FrameEnd U o U' L ({ frames := 0, cells := 0, slots := 0, locals := 0 } : Room).cells ({ frames := 0, cells := 0, slots := 0, locals := 0 } : Room).slots) := by
 refine MetFree.of_bodySF (plainFor_of_name pn_java_lang_String) hisR ?_
 intro p e s m args below meth c s₁ Bd hml0 hP hK
 obtain ⟨rfl, hZ, hh⟩ := hP
 have hx := Bd.exec
 have hby := Bd.bytes
 have hml : c.maxLocals = 1 := hml0
 have hown : s.vm.findClass "java/lang/String" = some m.cls := findClass_of_methodNamed Bd.named
 have hnm := (name_of_methodNamed Bd.named Bd.method).1
 have X0 : Stand p l e ({ frames := 0, cells := 0, slots := 0, locals := 0 } : Room) s m #[(.ref aa)] below meth c s₁ [] 0 0 := Stand.of_body Bd
 have e0 : s₁.heap = h0 := by rw [← hh, Bd.state]; rfl
 have N0 := Fr.nil n0
 have K00 : Keep h0 h0 [] := Keep.refl _ _
 show Rch p e below s₁ (entryFrame m #[(.ref aa)] 1) (FinP s (Q_rm_coder Z G1 aa cd h0 n0) 0 0)
 refine Rch.cast (ef_rm_coder m G1 aa cd) ?_
 show Rch p e below s₁ (mkF m 0 #[.val (.ref aa)] []) _
 obtain ⟨T1, X1, e1, st1⟩ := getS X0 hx hZ hown (host := "") (wi hw 77 rfl) Via.refl e0 (O2.ext Old0.2) (g := (mkF m 0 #[.val (.ref aa)] [])) rfl (hb hby djdk42m152_0)
 refine Rch.st (fun _ k => st1 _ k) ?_
 show Rch p e below T1 (mkF m 3 #[.val (.ref aa)] [(.int G1)]) _
 refine w_ifNo (pc' := 6) X1 hx hby djdk42m152_3 (XT.i0_eq_f (P5)) rfl ?_
 refine w_aloadN (pc' := 7) X1 hx hby djdk42m152_6 rfl rfl rfl ?_
 obtain ⟨T2, X2, e2, st2⟩ := getF X1 hx hZ hown (host := "") (Or.inl (wi hw 78 rfl)) Via.refl e1 f2 (g := (mkF m 7 #[.val (.ref aa)] [(.ref aa)])) rfl rfl (hb hby djdk42m152_7)
 refine Rch.st (fun _ k => st2 _ k) ?_
 show Rch p e below T2 (mkF m 10 #[.val (.ref aa)] [(.int cd)]) _
 refine w_goto (pc' := 14) X2 hx hby djdk42m152_10 (by decide) ?_
 exact Rch.retV X2 hx Bd.returns (by rcases hcd with rfl | rfl <;> rfl) (Or.inl ⟨rfl, by simp, _, rfl⟩) (hb hby djdk42m152_14) (by rw [e2]; exact ⟨rfl, N0, rfl⟩) (by decide) (by decide)

theorem djdk42m54_0 : decode jdk_42_method_54_code 0 = .ok (.aload_n 0, 1) := by decide +kernel
theorem djdk42m54_1 : decode jdk_42_method_54_code 1 = .ok (.getfield 9, 3) := by decide +kernel
theorem djdk42m54_4 : decode jdk_42_method_54_code 4 = .ok (.arraylength, 1) := by decide +kernel
theorem djdk42m54_5 : decode jdk_42_method_54_code 5 = .ok (.aload_n 0, 1) := by decide +kernel
theorem djdk42m54_6 : decode jdk_42_method_54_code 6 = .ok (.invokevirtual 335, 3) := by decide +kernel
theorem djdk42m54_9 : decode jdk_42_method_54_code 9 = .ok (.ishr, 1) := by decide +kernel
theorem djdk42m54_10 : decode jdk_42_method_54_code 10 = .ok (.ireturn, 1) := by decide +kernel
theorem ef_rm_length (m : MethodId) (G1 : Int32) (aa : Addr) (cd : Int32) (bb : Addr) (kb : ClassId) (nn : Int32) (vs : List Value) (dd : Value)  : entryFrame m #[(.ref aa)] 1 = mkF m 0 #[.val (.ref aa)] [] := by  first | (simp [entryFrame, mkF, argsToLocals, Value.category, maxLocals]; done) | rfl
def Q_rm_length (Z : State) (G1 : Int32) (aa : Addr) (cd : Int32) (bb : Addr) (kb : ClassId) (nn : Int32) (vs : List Value) (dd : Value) (h0 : Heap) (n0 : Nat) (v : Option Value) (h : Heap) (L : List Loc) : Prop := (v = some (.int (nn >>> (cd &&& 31)))) ∧ (Fr n0 L) ∧ (h = h0)
theorem pd___B : parseMethodDescriptor "()B" = some ⟨[], (some .byte)⟩ := by decide +kernel
set_option maxRecDepth 65536 in
set_option maxHeartbeats 40000000 in
theorem rm_length (l : Launch) (Z : State) (a0 : Array Value) (hw : ∀ d ∈ tables_1, d.before a0 Z = true) (ws : List Jvm.Cond) (G1 : Int32) (aa : Addr) (cd : Int32) (bb : Addr) (kb : ClassId) (nn : Int32) (vs : List Value) (dd : Value) (h0 : Heap) (n0 : Nat) (Z0 : n0 ≤ h0.size) (O2 : Sta Z Z.heap "java/lang/String" "COMPACT_STRINGS" "Z" (.int G1)) (P5 : ¬ G1 = 0) (f2 : Fld Z h0 aa "java/lang/String" "coder" "B" (.int cd)) (hcd : cd = 0 ∨ cd = 1) (f4 : Fld Z h0 aa "java/lang/String" "value" "[B" (.ref bb)) (f5 : Arv Z h0 bb kb .byte nn vs dd) (f6 : Exa Z h0 aa "java/lang/String") (Old0 : OldL Z n0 h0) :
    MetFree l (⟨"java/lang/String", "length", "()I"⟩ : MethodName) (head1 (Jvm.Cond.code (⟨"java/lang/String", "length", "()I"⟩ : MethodName) jdk_42_method_54_code 1 (some .int) :: ws) ({ frames := 1, cells := 0, slots := 0, locals := 13 } : Room)) (fun a U => a = #[(.ref aa)] ∧ Z.Warmed39 U.vm ∧ U.heap = h0) (fun _ _ _ _ _ => True) (fun _ U o U' => ∃ v L, o = .returned v ∧ Q_rm_length Z G1 aa cd bb kb nn vs dd h0 n0 v U'.heap L ∧ FrameEnd U o U' L ({ frames := 1, cells := 0, slots := 0, locals := 13 } : Room).cells ({ frames := 1, cells := 0, slots := 0, locals := 13 } : Room).slots) := by
 refine MetFree.of_bodySF (plainFor_of_name pn_java_lang_String) hisR ?_
 intro p e s m args below meth c s₁ Bd hml0 hP hK
 obtain ⟨rfl, hZ, hh⟩ := hP
 have hx := Bd.exec
 have hby := Bd.bytes
 have hml : c.maxLocals = 1 := hml0
 have hown : s.vm.findClass "java/lang/String" = some m.cls := findClass_of_methodNamed Bd.named
 have hnm := (name_of_methodNamed Bd.named Bd.method).1
 have X0 : Stand p l e ({ frames := 1, cells := 0, slots := 0, locals := 13 } : Room) s m #[(.ref aa)] below meth c s₁ [] 0 0 := Stand.of_body Bd
 have e0 : s₁.heap = h0 := by rw [← hh, Bd.state]; rfl
 have N0 := Fr.nil n0
 have K00 : Keep h0 h0 [] := Keep.refl _ _
 show Rch p e below s₁ (entryFrame m #[(.ref aa)] 1) (FinP s (Q_rm_length Z G1 aa cd bb kb nn vs dd h0 n0) 0 0)
 refine Rch.cast (ef_rm_length m G1 aa cd bb kb nn vs dd) ?_
 show Rch p e below s₁ (mkF m 0 #[.val (.ref aa)] []) _
 refine w_aloadN (pc' := 1) X0 hx hby djdk42m54_0 rfl rfl rfl ?_
 obtain ⟨T3, X3, e3, st3⟩ := getF X0 hx hZ hown (host := "") (Or.inl (wi hw 71 rfl)) Via.refl e0 f4 (g := (mkF m 1 #[.val (.ref aa)] [(.ref aa)])) rfl rfl (hb hby djdk42m54_1)
 refine Rch.st (fun _ k => st3 _ k) ?_
 show Rch p e below T3 (mkF m 4 #[.val (.ref aa)] [(.ref bb)]) _
 refine Rch.st (fun _ k => own_alen X3 hx hZ e3 f5 rfl rfl (hb hby djdk42m54_4) k) ?_
 show Rch p e below T3 (mkF m 5 #[.val (.ref aa)] [(.int nn)]) _
 refine w_aloadN (pc' := 6) X3 hx hby djdk42m54_5 rfl rfl rfl ?_
 obtain ⟨cq4, kq4, q4a, q4b, q4c⟩ := isOf hZ e3 f6
 obtain ⟨_, _, ⟨T4, L4, k4, n4⟩, -, X4, ⟨Lc4, hQ4, l4, y4, z4⟩, st4⟩ := X3.virtualBack hx (y := (⟨"java/lang/String", "coder", "()B"⟩ : MethodName)) (z := (⟨"java/lang/String", "coder", "()B"⟩ : MethodName)) hown (mvT hZ (wi hw 72 rfl)) (mvT hZ (wi hw 73 rfl)) (notFace_of_selects (args := #[]) (mvT hZ (wi hw 75 rfl))) (mvT hZ (wi hw 75 rfl)) (mvT hZ (wi hw 74 rfl)) (by decide) (backOf (W := 1) (rm_coder l Z a0 hw [] G1 aa cd h0 n0 Z0 (O2) (P5) f2 (hcd) Old0) hZ (wi hw 76 rfl) (wi hw 6 rfl) (by decide) (by decide)) q4a q4c (g := (mkF m 6 #[.val (.ref aa)] [(.ref aa), (.int nn)])) rfl (by rw [hml]; rfl) (Steps.refl _) (argsL := []) (rest := [(.int nn)]) (lenOf pd___B rfl) rfl (by show 2 * 0 + _ ≤ _; exact Nat.le_of_eq rfl) (hb hby djdk42m54_6) (fun _ _ => ⟨rfl, e3, (by decide : 0 + 0 ≤ _), (by decide : 0 + 0 ≤ _)⟩)
 dsimp only [Pt.U, Pt.locs, Pt.cells, Pt.slots] at X4 l4 y4 z4 st4 hQ4
 subst l4 y4 z4
 obtain ⟨rfl, NQ4, K4⟩ := hQ4
 have N5 := Fr.app N0 NQ4
 refine Rch.st (fun _ k => st4.trans k) ?_
 show Rch p e below T4 (mkF m 9 #[.val (.ref aa)] [(.int cd), (.int nn)]) _
 refine w_ishr (pc' := 10) X4 hx hby djdk42m54_9 rfl ?_
 exact Rch.retV X4 hx Bd.returns rfl (Or.inl ⟨rfl, by simp, _, rfl⟩) (hb hby djdk42m54_10) (by rw [K4]; exact ⟨rfl, N5, rfl⟩) (by decide) (by decide)

theorem djdk52m15_0 : decode jdk_52_method_15_code 0 = .ok (.iload_n 1, 1) := by decide +kernel
theorem djdk52m15_1 : decode jdk_52_method_15_code 1 = .ok (.aload_n 0, 1) := by decide +kernel
theorem djdk52m15_2 : decode jdk_52_method_15_code 2 = .ok (.arraylength, 1) := by decide +kernel
theorem djdk52m15_3 : decode jdk_52_method_15_code 3 = .ok (.isub, 1) := by decide +kernel
theorem djdk52m15_4 : decode jdk_52_method_15_code 4 = .ok (.bipush 31, 2) := by decide +kernel
theorem djdk52m15_6 : decode jdk_52_method_15_code 6 = .ok (.iushr, 1) := by decide +kernel
theorem djdk52m15_7 : decode jdk_52_method_15_code 7 = .ok (.i2b, 1) := by decide +kernel
theorem djdk52m15_8 : decode jdk_52_method_15_code 8 = .ok (.ireturn, 1) := by decide +kernel
theorem pn_java_lang_StringUTF16 : plainName "java/lang/StringUTF16" = true := by first | (simp [plainName, overriddenIn]; done) | decide +kernel
theorem ef_rm_cfl (m : MethodId) (bd : Addr) (kd : ClassId) (nn : Int32) (mm : Int32) (vs : List Value) (dd : Value)  : entryFrame m #[(.ref bd), (.int nn)] 2 = mkF m 0 #[.val (.ref bd), .val (.int nn)] [] := by  first | (simp [entryFrame, mkF, argsToLocals, Value.category, maxLocals]; done) | rfl
def Q_rm_cfl (Z : State) (bd : Addr) (kd : ClassId) (nn : Int32) (mm : Int32) (vs : List Value) (dd : Value) (h0 : Heap) (n0 : Nat) (v : Option Value) (h : Heap) (L : List Loc) : Prop := (v = some (.int ((XT.ushr (nn - mm) (31 : Int32))).toInt8.toInt32)) ∧ (Fr n0 L) ∧ (h = h0)
set_option maxRecDepth 65536 in
set_option maxHeartbeats 40000000 in
theorem rm_cfl (l : Launch) (Z : State) (a0 : Array Value) (hw : ∀ d ∈ tables_1, d.before a0 Z = true) (ws : List Jvm.Cond) (bd : Addr) (kd : ClassId) (nn : Int32) (mm : Int32) (vs : List Value) (dd : Value) (h0 : Heap) (n0 : Nat) (Z0 : n0 ≤ h0.size) (f0 : Arv Z h0 bd kd .byte mm vs dd) :
    MetFree l (⟨"java/lang/StringUTF16", "coderFromArrayLen", "([BI)B"⟩ : MethodName) (head1 (Jvm.Cond.code (⟨"java/lang/StringUTF16", "coderFromArrayLen", "([BI)B"⟩ : MethodName) jdk_52_method_15_code 2 (some .byte) :: ws) ({ frames := 0, cells := 0, slots := 0, locals := 0 } : Room)) (fun a U => a = #[(.ref bd), (.int nn)] ∧ Z.Warmed39 U.vm ∧ U.heap = h0) (fun _ _ _ _ _ => True) (fun _ U o U' => ∃ v L, o = .returned v ∧ Q_rm_cfl Z bd kd nn mm vs dd h0 n0 v U'.heap L ∧ FrameEnd U o U' L ({ frames := 0, cells := 0, slots := 0, locals := 0 } : Room).cells ({ frames := 0, cells := 0, slots := 0, locals := 0 } : Room).slots) := by
 refine MetFree.of_bodySF (plainFor_of_name pn_java_lang_StringUTF16) hisR ?_
 intro p e s m args below meth c s₁ Bd hml0 hP hK
 obtain ⟨rfl, hZ, hh⟩ := hP
 have hx := Bd.exec
 have hby := Bd.bytes
 have hml : c.maxLocals = 2 := hml0
 have hown : s.vm.findClass "java/lang/StringUTF16" = some m.cls := findClass_of_methodNamed Bd.named
 have hnm := (name_of_methodNamed Bd.named Bd.method).1
 have X0 : Stand p l e ({ frames := 0, cells := 0, slots := 0, locals := 0 } : Room) s m #[(.ref bd), (.int nn)] below meth c s₁ [] 0 0 := Stand.of_body Bd
 have e0 : s₁.heap = h0 := by rw [← hh, Bd.state]; rfl
 have N0 := Fr.nil n0
 have K00 : Keep h0 h0 [] := Keep.refl _ _
 show Rch p e below s₁ (entryFrame m #[(.ref bd), (.int nn)] 2) (FinP s (Q_rm_cfl Z bd kd nn mm vs dd h0 n0) 0 0)
 refine Rch.cast (ef_rm_cfl m bd kd nn mm vs dd) ?_
 show Rch p e below s₁ (mkF m 0 #[.val (.ref bd), .val (.int nn)] []) _
 refine w_iloadN (pc' := 1) X0 hx hby djdk52m15_0 rfl rfl ?_
 refine w_aloadN (pc' := 2) X0 hx hby djdk52m15_1 rfl rfl rfl ?_
 refine Rch.st (fun _ k => own_alen X0 hx hZ e0 f0 rfl rfl (hb hby djdk52m15_2) k) ?_
 show Rch p e below s₁ (mkF m 3 #[.val (.ref bd), .val (.int nn)] [(.int mm), (.int nn)]) _
 refine w_isub (pc' := 4) X0 hx hby djdk52m15_3 rfl ?_
 refine w_bipush (pc' := 6) (v := 31) X0 hx hby djdk52m15_4 rfl rfl ?_
 refine w_iushr (pc' := 7) X0 hx hby djdk52m15_6 rfl ?_
 refine w_i2b (pc' := 8) X0 hx hby djdk52m15_7 rfl ?_
 exact Rch.retV X0 hx Bd.returns (XT.narrow_b _) (Or.inl ⟨rfl, by simp, _, rfl⟩) (hb hby djdk52m15_8) (by rw [e0]; exact ⟨rfl, N0, rfl⟩) (by decide) (by decide)

theorem djdk42m154_0 : decode jdk_42_method_154_code 0 = .ok (.getstatic 38, 3) := by decide +kernel
theorem djdk42m154_3 : decode jdk_42_method_154_code 3 = .ok (.ifCond .eq 14, 3) := by decide +kernel
theorem djdk42m154_6 : decode jdk_42_method_154_code 6 = .ok (.aload_n 0, 1) := by decide +kernel
theorem djdk42m154_7 : decode jdk_42_method_154_code 7 = .ok (.getfield 15, 3) := by decide +kernel
theorem djdk42m154_10 : decode jdk_42_method_154_code 10 = .ok (.ifCond .ne 7, 3) := by decide +kernel
theorem djdk42m154_13 : decode jdk_42_method_154_code 13 = .ok (.iconst 1, 1) := by decide +kernel
theorem djdk42m154_14 : decode jdk_42_method_154_code 14 = .ok (.goto 4, 3) := by decide +kernel
theorem djdk42m154_18 : decode jdk_42_method_154_code 18 = .ok (.ireturn, 1) := by decide +kernel
theorem ef_rm_isl (m : MethodId) (G1 : Int32) (aa : Addr)  : entryFrame m #[(.ref aa)] 1 = mkF m 0 #[.val (.ref aa)] [] := by  first | (simp [entryFrame, mkF, argsToLocals, Value.category, maxLocals]; done) | rfl
def Q_rm_isl (Z : State) (G1 : Int32) (aa : Addr) (h0 : Heap) (n0 : Nat) (v : Option Value) (h : Heap) (L : List Loc) : Prop := (v = some (.int (1 : Int32))) ∧ (Fr n0 L) ∧ (h = h0)
set_option maxRecDepth 65536 in
set_option maxHeartbeats 40000000 in
theorem rm_isl (l : Launch) (Z : State) (a0 : Array Value) (hw : ∀ d ∈ tables_1, d.before a0 Z = true) (ws : List Jvm.Cond) (G1 : Int32) (aa : Addr) (h0 : Heap) (n0 : Nat) (Z0 : n0 ≤ h0.size) (O2 : Sta Z Z.heap "java/lang/String" "COMPACT_STRINGS" "Z" (.int G1)) (P5 : ¬ G1 = 0) (f2 : Fld Z h0 aa "java/lang/String" "coder" "B" (.int (0 : Int32))) (Old0 : OldL Z n0 h0) :
    MetFree l (⟨"java/lang/String", "isLatin1", "()Z"⟩ : MethodName) (head1 (Jvm.Cond.code (⟨"java/lang/String", "isLatin1", "()Z"⟩ : MethodName) jdk_42_method_154_code 1 (some .boolean) :: ws) ({ frames := 0, cells := 0, slots := 0, locals := 0 } : Room)) (fun a U => a = #[(.ref aa)] ∧ Z.Warmed39 U.vm ∧ U.heap = h0) (fun _ _ _ _ _ => True) (fun _ U o U' => ∃ v L, o = .returned v ∧ Q_rm_isl Z G1 aa h0 n0 v U'.heap L ∧ FrameEnd U o U' L ({ frames := 0, cells := 0, slots := 0, locals := 0 } : Room).cells ({ frames := 0, cells := 0, slots := 0, locals := 0 } : Room).slots) := by
 refine MetFree.of_bodySF (plainFor_of_name pn_java_lang_String) hisR ?_
 intro p e s m args below meth c s₁ Bd hml0 hP hK
 obtain ⟨rfl, hZ, hh⟩ := hP
 have hx := Bd.exec
 have hby := Bd.bytes
 have hml : c.maxLocals = 1 := hml0
 have hown : s.vm.findClass "java/lang/String" = some m.cls := findClass_of_methodNamed Bd.named
 have hnm := (name_of_methodNamed Bd.named Bd.method).1
 have X0 : Stand p l e ({ frames := 0, cells := 0, slots := 0, locals := 0 } : Room) s m #[(.ref aa)] below meth c s₁ [] 0 0 := Stand.of_body Bd
 have e0 : s₁.heap = h0 := by rw [← hh, Bd.state]; rfl
 have N0 := Fr.nil n0
 have K00 : Keep h0 h0 [] := Keep.refl _ _
 show Rch p e below s₁ (entryFrame m #[(.ref aa)] 1) (FinP s (Q_rm_isl Z G1 aa h0 n0) 0 0)
 refine Rch.cast (ef_rm_isl m G1 aa) ?_
 show Rch p e below s₁ (mkF m 0 #[.val (.ref aa)] []) _
 obtain ⟨T6, X6, e6, st6⟩ := getS X0 hx hZ hown (host := "") (wi hw 77 rfl) Via.refl e0 (O2.ext Old0.2) (g := (mkF m 0 #[.val (.ref aa)] [])) rfl (hb hby djdk42m154_0)
 refine Rch.st (fun _ k => st6 _ k) ?_
 show Rch p e below T6 (mkF m 3 #[.val (.ref aa)] [(.int G1)]) _
 refine w_ifNo (pc' := 6) X6 hx hby djdk42m154_3 (XT.i0_eq_f (P5)) rfl ?_
 refine w_aloadN (pc' := 7) X6 hx hby djdk42m154_6 rfl rfl rfl ?_
 obtain ⟨T7, X7, e7, st7⟩ := getF X6 hx hZ hown (host := "") (Or.inl (wi hw 78 rfl)) Via.refl e6 f2 (g := (mkF m 7 #[.val (.ref aa)] [(.ref aa)])) rfl rfl (hb hby djdk42m154_7)
 refine Rch.st (fun _ k => st7 _ k) ?_
 show Rch p e below T7 (mkF m 10 #[.val (.ref aa)] [(.int 0)]) _
 refine w_ifNo (pc' := 13) X7 hx hby djdk42m154_10 (XT.i0_ne_f (by decide)) rfl ?_
 refine w_iconst (pc' := 14) (v := 1) X7 hx hby djdk42m154_13 rfl rfl ?_
 refine w_goto (pc' := 18) X7 hx hby djdk42m154_14 (by decide) ?_
 exact Rch.retV X7 hx Bd.returns rfl (Or.inl ⟨rfl, by simp, _, rfl⟩) (hb hby djdk42m154_18) (by rw [e7]; exact ⟨rfl, N0, rfl⟩) (by decide) (by decide)

theorem djdk41m11_0 : decode jdk_41_method_11_code 0 = .ok (.iload_n 0, 1) := by decide +kernel
theorem djdk41m11_1 : decode jdk_41_method_11_code 1 = .ok (.ifCond .lt 8, 3) := by decide +kernel
theorem djdk41m11_4 : decode jdk_41_method_11_code 4 = .ok (.iload_n 0, 1) := by decide +kernel
theorem djdk41m11_5 : decode jdk_41_method_11_code 5 = .ok (.iload_n 1, 1) := by decide +kernel
theorem djdk41m11_6 : decode jdk_41_method_11_code 6 = .ok (.if_icmp .lt 10, 3) := by decide +kernel
theorem djdk41m11_16 : decode jdk_41_method_11_code 16 = .ok (.iload_n 0, 1) := by decide +kernel
theorem djdk41m11_17 : decode jdk_41_method_11_code 17 = .ok (.ireturn, 1) := by decide +kernel
theorem pn_jdk_internal_util_Preconditions : plainName "jdk/internal/util/Preconditions" = true := by first | (simp [plainName, overriddenIn]; done) | decide +kernel
theorem ef_rm_ci3 (m : MethodId) (ii : Int32) (nn : Int32) (G3 : Value) (rG3 : G3.isRef = true) : entryFrame m #[(.int ii), (.int nn), G3] 3 = mkF m 0 #[.val (.int ii), .val (.int nn), .val G3] [] := by rcases ref_cases rG3 with rfl | ⟨_, rfl⟩ <;> first | (simp [entryFrame, mkF, argsToLocals, Value.category, maxLocals]; done) | rfl
def Q_rm_ci3 (Z : State) (ii : Int32) (nn : Int32) (G3 : Value) (h0 : Heap) (n0 : Nat) (v : Option Value) (h : Heap) (L : List Loc) : Prop := (v = some (.int ii)) ∧ (Fr n0 L) ∧ (h = h0)
set_option maxRecDepth 65536 in
set_option maxHeartbeats 40000000 in
theorem rm_ci3 (l : Launch) (Z : State) (a0 : Array Value) (hw : ∀ d ∈ tables_1, d.before a0 Z = true) (ws : List Jvm.Cond) (ii : Int32) (nn : Int32) (G3 : Value) (h0 : Heap) (n0 : Nat) (Z0 : n0 ≤ h0.size) (rG3 : G3.isRef = true) (hz0 : ¬ ii < 0) (hz1 : ii < nn) :
    MetFree l (⟨"jdk/internal/util/Preconditions", "checkIndex", "(IILjava/util/function/BiFunction;)I"⟩ : MethodName) (head1 (Jvm.Cond.code (⟨"jdk/internal/util/Preconditions", "checkIndex", "(IILjava/util/function/BiFunction;)I"⟩ : MethodName) jdk_41_method_11_code 3 (some .int) :: ws) ({ frames := 0, cells := 0, slots := 0, locals := 0 } : Room)) (fun a U => a = #[(.int ii), (.int nn), G3] ∧ Z.Warmed39 U.vm ∧ U.heap = h0) (fun _ _ _ _ _ => True) (fun _ U o U' => ∃ v L, o = .returned v ∧ Q_rm_ci3 Z ii nn G3 h0 n0 v U'.heap L ∧ FrameEnd U o U' L ({ frames := 0, cells := 0, slots := 0, locals := 0 } : Room).cells ({ frames := 0, cells := 0, slots := 0, locals := 0 } : Room).slots) := by
 refine MetFree.of_bodySF (plainFor_of_name pn_jdk_internal_util_Preconditions) hisR ?_
 intro p e s m args below meth c s₁ Bd hml0 hP hK
 obtain ⟨rfl, hZ, hh⟩ := hP
 have hx := Bd.exec
 have hby := Bd.bytes
 have hml : c.maxLocals = 3 := hml0
 have hown : s.vm.findClass "jdk/internal/util/Preconditions" = some m.cls := findClass_of_methodNamed Bd.named
 have hnm := (name_of_methodNamed Bd.named Bd.method).1
 have X0 : Stand p l e ({ frames := 0, cells := 0, slots := 0, locals := 0 } : Room) s m #[(.int ii), (.int nn), G3] below meth c s₁ [] 0 0 := Stand.of_body Bd
 have e0 : s₁.heap = h0 := by rw [← hh, Bd.state]; rfl
 have N0 := Fr.nil n0
 have K00 : Keep h0 h0 [] := Keep.refl _ _
 show Rch p e below s₁ (entryFrame m #[(.int ii), (.int nn), G3] 3) (FinP s (Q_rm_ci3 Z ii nn G3 h0 n0) 0 0)
 refine Rch.cast (ef_rm_ci3 m ii nn G3 rG3) ?_
 show Rch p e below s₁ (mkF m 0 #[.val (.int ii), .val (.int nn), .val G3] []) _
 refine w_iloadN (pc' := 1) X0 hx hby djdk41m11_0 rfl rfl ?_
 refine w_ifNo (pc' := 4) X0 hx hby djdk41m11_1 (XT.i0_lt_f (hz0)) rfl ?_
 refine w_iloadN (pc' := 5) X0 hx hby djdk41m11_4 rfl rfl ?_
 refine w_iloadN (pc' := 6) X0 hx hby djdk41m11_5 rfl rfl ?_
 refine w_icmpYes (pc' := 16) X0 hx hby djdk41m11_6 (XT.ii_lt_t (hz1)) (by decide) ?_
 refine w_iloadN (pc' := 17) X0 hx hby djdk41m11_16 rfl rfl ?_
 exact Rch.retV X0 hx Bd.returns rfl (Or.inl ⟨rfl, by simp, _, rfl⟩) (hb hby djdk41m11_17) (by rw [e0]; exact ⟨rfl, N0, rfl⟩) (by decide) (by decide)

theorem djdk42m155_0 : decode jdk_42_method_155_code 0 = .ok (.iload_n 0, 1) := by decide +kernel
theorem djdk42m155_1 : decode jdk_42_method_155_code 1 = .ok (.iload_n 1, 1) := by decide +kernel
theorem djdk42m155_2 : decode jdk_42_method_155_code 2 = .ok (.getstatic 1053, 3) := by decide +kernel
theorem djdk42m155_5 : decode jdk_42_method_155_code 5 = .ok (.invokestatic 1059, 3) := by decide +kernel
theorem djdk42m155_8 : decode jdk_42_method_155_code 8 = .ok (.pop, 1) := by decide +kernel
theorem djdk42m155_9 : decode jdk_42_method_155_code 9 = .ok (.return_, 1) := by decide +kernel
theorem ef_rm_ci2 (m : MethodId) (ii : Int32) (nn : Int32) (G3 : Value)  : entryFrame m #[(.int ii), (.int nn)] 2 = mkF m 0 #[.val (.int ii), .val (.int nn)] [] := by  first | (simp [entryFrame, mkF, argsToLocals, Value.category, maxLocals]; done) | rfl
def Q_rm_ci2 (Z : State) (ii : Int32) (nn : Int32) (G3 : Value) (h0 : Heap) (n0 : Nat) (v : Option Value) (h : Heap) (L : List Loc) : Prop := (v = none) ∧ (Fr n0 L) ∧ (h = h0)
theorem pd__IILjava_util_function_BiFunction__I : parseMethodDescriptor "(IILjava/util/function/BiFunction;)I" = some ⟨[.int, .int, (.object "java/util/function/BiFunction")], (some .int)⟩ := by decide +kernel
set_option maxRecDepth 65536 in
set_option maxHeartbeats 40000000 in
theorem rm_ci2 (l : Launch) (Z : State) (a0 : Array Value) (hw : ∀ d ∈ tables_1, d.before a0 Z = true) (ws : List Jvm.Cond) (ii : Int32) (nn : Int32) (G3 : Value) (h0 : Heap) (n0 : Nat) (Z0 : n0 ≤ h0.size) (O4 : Sta Z Z.heap "jdk/internal/util/Preconditions" "SIOOBE_FORMATTER" "Ljava/util/function/BiFunction;" G3) (rG3 : G3.isRef = true) (hz0 : ¬ ii < 0) (hz1 : ii < nn) (Old0 : OldL Z n0 h0) :
    MetFree l (⟨"java/lang/String", "checkIndex", "(II)V"⟩ : MethodName) (head1 (Jvm.Cond.code (⟨"java/lang/String", "checkIndex", "(II)V"⟩ : MethodName) jdk_42_method_155_code 2 none :: ws) ({ frames := 1, cells := 0, slots := 0, locals := 14 } : Room)) (fun a U => a = #[(.int ii), (.int nn)] ∧ Z.Warmed39 U.vm ∧ U.heap = h0) (fun _ _ _ _ _ => True) (fun _ U o U' => ∃ v L, o = .returned v ∧ Q_rm_ci2 Z ii nn G3 h0 n0 v U'.heap L ∧ FrameEnd U o U' L ({ frames := 1, cells := 0, slots := 0, locals := 14 } : Room).cells ({ frames := 1, cells := 0, slots := 0, locals := 14 } : Room).slots) := by
 refine MetFree.of_bodySF (plainFor_of_name pn_java_lang_String) hisR ?_
 intro p e s m args below meth c s₁ Bd hml0 hP hK
 obtain ⟨rfl, hZ, hh⟩ := hP
 have hx := Bd.exec
 have hby := Bd.bytes
 have hml : c.maxLocals = 2 := hml0
 have hown : s.vm.findClass "java/lang/String" = some m.cls := findClass_of_methodNamed Bd.named
 have hnm := (name_of_methodNamed Bd.named Bd.method).1
 have X0 : Stand p l e ({ frames := 1, cells := 0, slots := 0, locals := 14 } : Room) s m #[(.int ii), (.int nn)] below meth c s₁ [] 0 0 := Stand.of_body Bd
 have e0 : s₁.heap = h0 := by rw [← hh, Bd.state]; rfl
 have N0 := Fr.nil n0
 have K00 : Keep h0 h0 [] := Keep.refl _ _
 show Rch p e below s₁ (entryFrame m #[(.int ii), (.int nn)] 2) (FinP s (Q_rm_ci2 Z ii nn G3 h0 n0) 0 0)
 refine Rch.cast (ef_rm_ci2 m ii nn G3) ?_
 show Rch p e below s₁ (mkF m 0 #[.val (.int ii), .val (.int nn)] []) _
 refine w_iloadN (pc' := 1) X0 hx hby djdk42m155_0 rfl rfl ?_
 refine w_iloadN (pc' := 2) X0 hx hby djdk42m155_1 rfl rfl ?_
 obtain ⟨T8, X8, e8, st8⟩ := getS X0 hx hZ hown (host := "") (wi hw 204 rfl) Via.refl e0 (O4.ext Old0.2) (g := (mkF m 2 #[.val (.int ii), .val (.int nn)] [(.int nn), (.int ii)])) rfl (hb hby djdk42m155_2)
 refine Rch.st (fun _ k => st8 _ k) ?_
 show Rch p e below T8 (mkF m 5 #[.val (.int ii), .val (.int nn)] [G3, (.int nn), (.int ii)]) _
 obtain ⟨_, _, ⟨T9, L9, k9, n9⟩, -, X9, ⟨Lc9, hQ9, l9, y9, z9⟩, st9⟩ := Jvm.LawKit.callS X8 hx (y := (⟨"jdk/internal/util/Preconditions", "checkIndex", "(IILjava/util/function/BiFunction;)I"⟩ : MethodName)) hown (mvT hZ (wi hw 206 rfl)) (mvT hZ (wi hw 207 rfl)) (mvT hZ (wi hw 205 rfl)) (mvT hZ (wi hw 208 rfl)) (by decide) (backOf (W := 0) (rm_ci3 l Z a0 hw [] ii nn G3 h0 n0 Z0 (rG3) (hz0) (hz1)) hZ (wi hw 208 rfl) (wi hw 205 rfl) (by decide) (by decide)) (g := (mkF m 5 #[.val (.int ii), .val (.int nn)] [G3, (.int nn), (.int ii)])) rfl (by rw [hml]; rfl) (argsL := [(.int ii), (.int nn), G3]) (rest := []) (lenOf pd__IILjava_util_function_BiFunction__I rfl) rfl (by show 2 * 0 + _ ≤ _; exact Nat.le_of_eq rfl) (hb hby djdk42m155_5) (fun _ _ => ⟨rfl, e8, (by decide : 0 + 0 ≤ _), (by decide : 0 + 0 ≤ _)⟩)
 dsimp only [Pt.U, Pt.locs, Pt.cells, Pt.slots] at X9 l9 y9 z9 st9 hQ9
 subst l9 y9 z9
 obtain ⟨rfl, NQ9, K9⟩ := hQ9
 have N10 := Fr.app N0 NQ9
 refine Rch.st (fun _ k => st9 _ k) ?_
 show Rch p e below T9 (mkF m 8 #[.val (.int ii), .val (.int nn)] [(.int ii)]) _
 refine w_pop (pc' := 9) X9 hx hby djdk42m155_8 rfl rfl ?_
 exact Rch.ret0 X9 hx Bd.returns (hb hby djdk42m155_9) (by rw [K9]; exact ⟨rfl, N10, rfl⟩) (by decide) (by decide)

theorem djdk43m2_0 : decode jdk_43_method_2_code 0 = .ok (.iload_n 1, 1) := by decide +kernel
theorem djdk43m2_1 : decode jdk_43_method_2_code 1 = .ok (.aload_n 0, 1) := by decide +kernel
theorem djdk43m2_2 : decode jdk_43_method_2_code 2 = .ok (.arraylength, 1) := by decide +kernel
theorem djdk43m2_3 : decode jdk_43_method_2_code 3 = .ok (.invokestatic 9, 3) := by decide +kernel
theorem djdk43m2_6 : decode jdk_43_method_2_code 6 = .ok (.aload_n 0, 1) := by decide +kernel
theorem djdk43m2_7 : decode jdk_43_method_2_code 7 = .ok (.iload_n 1, 1) := by decide +kernel
theorem djdk43m2_8 : decode jdk_43_method_2_code 8 = .ok (.baload, 1) := by decide +kernel
theorem djdk43m2_9 : decode jdk_43_method_2_code 9 = .ok (.sipush 255, 3) := by decide +kernel
theorem djdk43m2_12 : decode jdk_43_method_2_code 12 = .ok (.iand, 1) := by decide +kernel
theorem djdk43m2_13 : decode jdk_43_method_2_code 13 = .ok (.i2c, 1) := by decide +kernel
theorem djdk43m2_14 : decode jdk_43_method_2_code 14 = .ok (.ireturn, 1) := by decide +kernel
theorem pn_java_lang_StringLatin1 : plainName "java/lang/StringLatin1" = true := by first | (simp [plainName, overriddenIn]; done) | decide +kernel
theorem ef_rm_chL (m : MethodId) (bb : Addr) (kb : ClassId) (nn : Int32) (vs : List Value) (dd : Value) (ii : Int32) (x0 : Int32) (G3 : Value)  : entryFrame m #[(.ref bb), (.int ii)] 2 = mkF m 0 #[.val (.ref bb), .val (.int ii)] [] := by  first | (simp [entryFrame, mkF, argsToLocals, Value.category, maxLocals]; done) | rfl
def Q_rm_chL (Z : State) (bb : Addr) (kb : ClassId) (nn : Int32) (vs : List Value) (dd : Value) (ii : Int32) (x0 : Int32) (G3 : Value) (h0 : Heap) (n0 : Nat) (v : Option Value) (h : Heap) (L : List Loc) : Prop := (v = some (.int (nar .char (x0 &&& (255 : Int32))))) ∧ (Fr n0 L) ∧ (h = h0)
theorem pd__II_V : parseMethodDescriptor "(II)V" = some ⟨[.int, .int], none⟩ := by decide +kernel
set_option maxRecDepth 65536 in
set_option maxHeartbeats 40000000 in
theorem rm_chL (l : Launch) (Z : State) (a0 : Array Value) (hw : ∀ d ∈ tables_1, d.before a0 Z = true) (ws : List Jvm.Cond) (bb : Addr) (kb : ClassId) (nn : Int32) (vs : List Value) (dd : Value) (ii : Int32) (x0 : Int32) (G3 : Value) (h0 : Heap) (n0 : Nat) (Z0 : n0 ≤ h0.size) (O4 : Sta Z Z.heap "jdk/internal/util/Preconditions" "SIOOBE_FORMATTER" "Ljava/util/function/BiFunction;" G3) (rG3 : G3.isRef = true) (f2 : Arv Z h0 bb kb .byte nn vs dd) (hz0 : ¬ ii < 0) (hz1 : ii < nn) (hv : vs.getD ii.toNatClampNeg dd = .int x0) (Old0 : OldL Z n0 h0) :
    MetFree l (⟨"java/lang/StringLatin1", "charAt", "([BI)C"⟩ : MethodName) (head1 (Jvm.Cond.code (⟨"java/lang/StringLatin1", "charAt", "([BI)C"⟩ : MethodName) jdk_43_method_2_code 2 (some .char) :: ws) ({ frames := 2, cells := 0, slots := 0, locals := 27 } : Room)) (fun a U => a = #[(.ref bb), (.int ii)] ∧ Z.Warmed39 U.vm ∧ U.heap = h0) (fun _ _ _ _ _ => True) (fun _ U o U' => ∃ v L, o = .returned v ∧ Q_rm_chL Z bb kb nn vs dd ii x0 G3 h0 n0 v U'.heap L ∧ FrameEnd U o U' L ({ frames := 2, cells := 0, slots := 0, locals := 27 } : Room).cells ({ frames := 2, cells := 0, slots := 0, locals := 27 } : Room).slots) := by
 refine MetFree.of_bodySF (plainFor_of_name pn_java_lang_StringLatin1) hisR ?_
 intro p e s m args below meth c s₁ Bd hml0 hP hK
 obtain ⟨rfl, hZ, hh⟩ := hP
 have hx := Bd.exec
 have hby := Bd.bytes
 have hml : c.maxLocals = 2 := hml0
 have hown : s.vm.findClass "java/lang/StringLatin1" = some m.cls := findClass_of_methodNamed Bd.named
 have hnm := (name_of_methodNamed Bd.named Bd.method).1
 have X0 : Stand p l e ({ frames := 2, cells := 0, slots := 0, locals := 27 } : Room) s m #[(.ref bb), (.int ii)] below meth c s₁ [] 0 0 := Stand.of_body Bd
 have e0 : s₁.heap = h0 := by rw [← hh, Bd.state]; rfl
 have N0 := Fr.nil n0
 have K00 : Keep h0 h0 [] := Keep.refl _ _
 show Rch p e below s₁ (entryFrame m #[(.ref bb), (.int ii)] 2) (FinP s (Q_rm_chL Z bb kb nn vs dd ii x0 G3 h0 n0) 0 0)
 refine Rch.cast (ef_rm_chL m bb kb nn vs dd ii x0 G3) ?_
 show Rch p e below s₁ (mkF m 0 #[.val (.ref bb), .val (.int ii)] []) _
 refine w_iloadN (pc' := 1) X0 hx hby djdk43m2_0 rfl rfl ?_
 refine w_aloadN (pc' := 2) X0 hx hby djdk43m2_1 rfl rfl rfl ?_
 refine Rch.st (fun _ k => own_alen X0 hx hZ e0 f2 rfl rfl (hb hby djdk43m2_2) k) ?_
 show Rch p e below s₁ (mkF m 3 #[.val (.ref bb), .val (.int ii)] [(.int nn), (.int ii)]) _
 obtain ⟨_, _, ⟨T11, L11, k11, n11⟩, -, X11, ⟨Lc11, hQ11, l11, y11, z11⟩, st11⟩ := Jvm.LawKit.callS X0 hx (y := (⟨"java/lang/String", "checkIndex", "(II)V"⟩ : MethodName)) hown (mvT hZ (wi hw 201 rfl)) (mvT hZ (wi hw 202 rfl)) (mvT hZ (wi hw 6 rfl)) (mvT hZ (wi hw 203 rfl)) (by decide) (backOf (W := 0) (rm_ci2 l Z a0 hw [] ii nn G3 h0 n0 Z0 (O4) (rG3) (hz0) (hz1) Old0) hZ (wi hw 203 rfl) (wi hw 6 rfl) (by decide) (by decide)) (g := (mkF m 3 #[.val (.ref bb), .val (.int ii)] [(.int nn), (.int ii)])) rfl (by rw [hml]; rfl) (argsL := [(.int ii), (.int nn)]) (rest := []) (lenOf pd__II_V rfl) rfl (by show 2 * 0 + _ ≤ _; exact Nat.le_of_eq rfl) (hb hby djdk43m2_3) (fun _ _ => ⟨rfl, e0, (by decide : 0 + 0 ≤ _), (by decide : 0 + 0 ≤ _)⟩)
 dsimp only [Pt.U, Pt.locs, Pt.cells, Pt.slots] at X11 l11 y11 z11 st11 hQ11
 subst l11 y11 z11
 obtain ⟨rfl, NQ11, K11⟩ := hQ11
 have N12 := Fr.app N0 NQ11
 refine Rch.st (fun _ k => st11 _ k) ?_
 show Rch p e below T11 (mkF m 6 #[.val (.ref bb), .val (.int ii)] []) _
 refine w_aloadN (pc' := 7) X11 hx hby djdk43m2_6 rfl rfl rfl ?_
 refine w_iloadN (pc' := 8) X11 hx hby djdk43m2_7 rfl rfl ?_
 refine Rch.st (fun _ k => own_ldB X11 hx hZ K11 f2 (j := ii) (⟨hz0, hz1⟩) (hv) rfl rfl (hb hby djdk43m2_8) k) ?_
 show Rch p e below T11 (mkF m 9 #[.val (.ref bb), .val (.int ii)] [(.int x0)]) _
 refine w_sipush (pc' := 12) (v := 255) X11 hx hby djdk43m2_9 rfl rfl ?_
 refine w_iand (pc' := 13) X11 hx hby djdk43m2_12 rfl ?_
 refine w_i2c (pc' := 14) X11 hx hby djdk43m2_13 rfl ?_
 exact Rch.retV X11 hx Bd.returns (XT.narrow_c _) (Or.inl ⟨rfl, by simp, _, rfl⟩) (hb hby djdk43m2_14) (by rw [K11]; exact ⟨rfl, N12, rfl⟩) (by decide) (by decide)

theorem djdk42m56_0 : decode jdk_42_method_56_code 0 = .ok (.aload_n 0, 1) := by decide +kernel
theorem djdk42m56_1 : decode jdk_42_method_56_code 1 = .ok (.invokevirtual 492, 3) := by decide +kernel
theorem djdk42m56_4 : decode jdk_42_method_56_code 4 = .ok (.ifCond .eq 12, 3) := by decide +kernel
theorem djdk42m56_7 : decode jdk_42_method_56_code 7 = .ok (.aload_n 0, 1) := by decide +kernel
theorem djdk42m56_8 : decode jdk_42_method_56_code 8 = .ok (.getfield 9, 3) := by decide +kernel
theorem djdk42m56_11 : decode jdk_42_method_56_code 11 = .ok (.iload_n 1, 1) := by decide +kernel
theorem djdk42m56_12 : decode jdk_42_method_56_code 12 = .ok (.invokestatic 495, 3) := by decide +kernel
theorem djdk42m56_15 : decode jdk_42_method_56_code 15 = .ok (.ireturn, 1) := by decide +kernel
theorem ef_rm_chA (m : MethodId) (G1 : Int32) (aa : Addr) (bb : Addr) (kb : ClassId) (nn : Int32) (vs : List Value) (dd : Value) (ii : Int32) (x0 : Int32) (G3 : Value)  : entryFrame m #[(.ref aa), (.int ii)] 2 = mkF m 0 #[.val (.ref aa), .val (.int ii)] [] := by  first | (simp [entryFrame, mkF, argsToLocals, Value.category, maxLocals]; done) | rfl
def Q_rm_chA (Z : State) (G1 : Int32) (aa : Addr) (bb : Addr) (kb : ClassId) (nn : Int32) (vs : List Value) (dd : Value) (ii : Int32) (x0 : Int32) (G3 : Value) (h0 : Heap) (n0 : Nat) (v : Option Value) (h : Heap) (L : List Loc) : Prop := (v = some (.int (nar .char (x0 &&& (255 : Int32))))) ∧ (Fr n0 L) ∧ (h = h0)
theorem pd___Z : parseMethodDescriptor "()Z" = some ⟨[], (some .boolean)⟩ := by decide +kernel
theorem pd___BI_C : parseMethodDescriptor "([BI)C" = some ⟨[(.array .byte), .int], (some .char)⟩ := by decide +kernel
set_option maxRecDepth 65536 in
set_option maxHeartbeats 40000000 in
theorem rm_chA (l : Launch) (Z : State) (a0 : Array Value) (hw : ∀ d ∈ tables_1, d.before a0 Z = true) (ws : List Jvm.Cond) (G1 : Int32) (aa : Addr) (bb : Addr) (kb : ClassId) (nn : Int32) (vs : List Value) (dd : Value) (ii : Int32) (x0 : Int32) (G3 : Value) (h0 : Heap) (n0 : Nat) (Z0 : n0 ≤ h0.size) (O2 : Sta Z Z.heap "java/lang/String" "COMPACT_STRINGS" "Z" (.int G1)) (P5 : ¬ G1 = 0) (O4 : Sta Z Z.heap "jdk/internal/util/Preconditions" "SIOOBE_FORMATTER" "Ljava/util/function/BiFunction;" G3) (rG3 : G3.isRef = true) (f4 : Exa Z h0 aa "java/lang/String") (f5 : Fld Z h0 aa "java/lang/String" "coder" "B" (.int (0 : Int32))) (f6 : Fld Z h0 aa "java/lang/String" "value" "[B" (.ref bb)) (f7 : Arv Z h0 bb kb .byte nn vs dd) (hz0 : ¬ ii < 0) (hz1 : ii < nn) (hv : vs.getD ii.toNatClampNeg dd = .int x0) (Old0 : OldL Z n0 h0) :
    MetFree l (⟨"java/lang/String", "charAt", "(I)C"⟩ : MethodName) (head1 (Jvm.Cond.code (⟨"java/lang/String", "charAt", "(I)C"⟩ : MethodName) jdk_42_method_56_code 2 (some .char) :: ws) ({ frames := 3, cells := 0, slots := 0, locals := 40 } : Room)) (fun a U => a = #[(.ref aa), (.int ii)] ∧ Z.Warmed39 U.vm ∧ U.heap = h0) (fun _ _ _ _ _ => True) (fun _ U o U' => ∃ v L, o = .returned v ∧ Q_rm_chA Z G1 aa bb kb nn vs dd ii x0 G3 h0 n0 v U'.heap L ∧ FrameEnd U o U' L ({ frames := 3, cells := 0, slots := 0, locals := 40 } : Room).cells ({ frames := 3, cells := 0, slots := 0, locals := 40 } : Room).slots) := by
 refine MetFree.of_bodySF (plainFor_of_name pn_java_lang_String) hisR ?_
 intro p e s m args below meth c s₁ Bd hml0 hP hK
 obtain ⟨rfl, hZ, hh⟩ := hP
 have hx := Bd.exec
 have hby := Bd.bytes
 have hml : c.maxLocals = 2 := hml0
 have hown : s.vm.findClass "java/lang/String" = some m.cls := findClass_of_methodNamed Bd.named
 have hnm := (name_of_methodNamed Bd.named Bd.method).1
 have X0 : Stand p l e ({ frames := 3, cells := 0, slots := 0, locals := 40 } : Room) s m #[(.ref aa), (.int ii)] below meth c s₁ [] 0 0 := Stand.of_body Bd
 have e0 : s₁.heap = h0 := by rw [← hh, Bd.state]; rfl
 have N0 := Fr.nil n0
 have K00 : Keep h0 h0 [] := Keep.refl _ _
 show Rch p e below s₁ (entryFrame m #[(.ref aa), (.int ii)] 2) (FinP s (Q_rm_chA Z G1 aa bb kb nn vs dd ii x0 G3 h0 n0) 0 0)
 refine Rch.cast (ef_rm_chA m G1 aa bb kb nn vs dd ii x0 G3) ?_
 show Rch p e below s₁ (mkF m 0 #[.val (.ref aa), .val (.int ii)] []) _
 refine w_aloadN (pc' := 1) X0 hx hby djdk42m56_0 rfl rfl rfl ?_
 obtain ⟨cq13, kq13, q13a, q13b, q13c⟩ := isOf hZ e0 f4
 obtain ⟨_, _, ⟨T13, L13, k13, n13⟩, -, X13, ⟨Lc13, hQ13, l13, y13, z13⟩, st13⟩ := X0.virtualBack hx (y := (⟨"java/lang/String", "isLatin1", "()Z"⟩ : MethodName)) (z := (⟨"java/lang/String", "isLatin1", "()Z"⟩ : MethodName)) hown (mvT hZ (wi hw 193 rfl)) (mvT hZ (wi hw 194 rfl)) (notFace_of_selects (args := #[]) (mvT hZ (wi hw 196 rfl))) (mvT hZ (wi hw 196 rfl)) (mvT hZ (wi hw 195 rfl)) (by decide) (backOf (W := 0) (rm_isl l Z a0 hw [] G1 aa h0 n0 Z0 (O2) (P5) f5 Old0) hZ (wi hw 197 rfl) (wi hw 6 rfl) (by decide) (by decide)) q13a q13c (g := (mkF m 1 #[.val (.ref aa), .val (.int ii)] [(.ref aa)])) rfl (by rw [hml]; rfl) (Steps.refl _) (argsL := []) (rest := []) (lenOf pd___Z rfl) rfl (by show 2 * 0 + _ ≤ _; exact Nat.le_of_eq rfl) (hb hby djdk42m56_1) (fun _ _ => ⟨rfl, e0, (by decide : 0 + 0 ≤ _), (by decide : 0 + 0 ≤ _)⟩)
 dsimp only [Pt.U, Pt.locs, Pt.cells, Pt.slots] at X13 l13 y13 z13 st13 hQ13
 subst l13 y13 z13
 obtain ⟨rfl, NQ13, K13⟩ := hQ13
 have N14 := Fr.app N0 NQ13
 refine Rch.st (fun _ k => st13.trans k) ?_
 show Rch p e below T13 (mkF m 4 #[.val (.ref aa), .val (.int ii)] [(.int 1)]) _
 refine w_ifNo (pc' := 7) X13 hx hby djdk42m56_4 (XT.i0_eq_f (by decide)) rfl ?_
 refine w_aloadN (pc' := 8) X13 hx hby djdk42m56_7 rfl rfl rfl ?_
 obtain ⟨T15, X15, e15, st15⟩ := getF X13 hx hZ hown (host := "") (Or.inl (wi hw 71 rfl)) Via.refl K13 f6 (g := (mkF m 8 #[.val (.ref aa), .val (.int ii)] [(.ref aa)])) rfl rfl (hb hby djdk42m56_8)
 refine Rch.st (fun _ k => st15 _ k) ?_
 show Rch p e below T15 (mkF m 11 #[.val (.ref aa), .val (.int ii)] [(.ref bb)]) _
 refine w_iloadN (pc' := 12) X15 hx hby djdk42m56_11 rfl rfl ?_
 obtain ⟨_, _, ⟨T16, L16, k16, n16⟩, -, X16, ⟨Lc16, hQ16, l16, y16, z16⟩, st16⟩ := Jvm.LawKit.callS X15 hx (y := (⟨"java/lang/StringLatin1", "charAt", "([BI)C"⟩ : MethodName)) hown (mvT hZ (wi hw 198 rfl)) (mvT hZ (wi hw 199 rfl)) (mvT hZ (wi hw 162 rfl)) (mvT hZ (wi hw 200 rfl)) (by decide) (backOf (W := 0) (rm_chL l Z a0 hw [] bb kb nn vs dd ii x0 G3 h0 n0 Z0 (O4) (rG3) f7 (hz0) (hz1) (hv) Old0) hZ (wi hw 200 rfl) (wi hw 162 rfl) (by decide) (by decide)) (g := (mkF m 12 #[.val (.ref aa), .val (.int ii)] [(.int ii), (.ref bb)])) rfl (by rw [hml]; rfl) (argsL := [(.ref bb), (.int ii)]) (rest := []) (lenOf pd___BI_C rfl) rfl (by show 2 * 0 + _ ≤ _; exact Nat.le_of_eq rfl) (hb hby djdk42m56_12) (fun _ _ => ⟨rfl, e15, (by decide : 0 + 0 ≤ _), (by decide : 0 + 0 ≤ _)⟩)
 dsimp only [Pt.U, Pt.locs, Pt.cells, Pt.slots] at X16 l16 y16 z16 st16 hQ16
 subst l16 y16 z16
 obtain ⟨rfl, NQ16, K16⟩ := hQ16
 have N17 := Fr.app N14 NQ16
 refine Rch.st (fun _ k => st16 _ k) ?_
 show Rch p e below T16 (mkF m 15 #[.val (.ref aa), .val (.int ii)] [(.int (nar .char (x0 &&& (255 : Int32))))]) _
 exact Rch.retV X16 hx Bd.returns (XT.narrow_c _) (Or.inl ⟨rfl, by simp, _, rfl⟩) (hb hby djdk42m56_15) (by rw [K16]; exact ⟨rfl, N17, rfl⟩) (by decide) (by decide)

theorem djdk29m69_0 : decode jdk_29_method_69_code 0 = .ok (.iload_n 0, 1) := by decide +kernel
theorem djdk29m69_1 : decode jdk_29_method_69_code 1 = .ok (.iload_n 1, 1) := by decide +kernel
theorem djdk29m69_2 : decode jdk_29_method_69_code 2 = .ok (.if_icmp .gt 7, 3) := by decide +kernel
theorem djdk29m69_5 : decode jdk_29_method_69_code 5 = .ok (.iload_n 0, 1) := by decide +kernel
theorem djdk29m69_6 : decode jdk_29_method_69_code 6 = .ok (.goto 4, 3) := by decide +kernel
theorem djdk29m69_9 : decode jdk_29_method_69_code 9 = .ok (.iload_n 1, 1) := by decide +kernel
theorem djdk29m69_10 : decode jdk_29_method_69_code 10 = .ok (.ireturn, 1) := by decide +kernel
theorem ef_rm_min32 (m : MethodId) (xx : Int32) (yy : Int32)  : entryFrame m #[(.int xx), (.int yy)] 2 = mkF m 0 #[.val (.int xx), .val (.int yy)] [] := by  first | (simp [entryFrame, mkF, argsToLocals, Value.category, maxLocals]; done) | rfl
def Q_rm_min32 (Z : State) (xx : Int32) (yy : Int32) (h0 : Heap) (n0 : Nat) (v : Option Value) (h : Heap) (L : List Loc) : Prop := (v = some (.int (own_min32 xx yy))) ∧ (Fr n0 L) ∧ (h = h0)
set_option maxRecDepth 65536 in
set_option maxHeartbeats 40000000 in
theorem rm_min32 (l : Launch) (Z : State) (a0 : Array Value) (hw : ∀ d ∈ tables_1, d.before a0 Z = true) (ws : List Jvm.Cond) (xx : Int32) (yy : Int32) (h0 : Heap) (n0 : Nat) (Z0 : n0 ≤ h0.size)  :
    MetFree l (⟨"java/lang/Math", "min", "(II)I"⟩ : MethodName) (head1 (Jvm.Cond.code (⟨"java/lang/Math", "min", "(II)I"⟩ : MethodName) jdk_29_method_69_code 2 (some .int) :: ws) ({ frames := 0, cells := 0, slots := 0, locals := 0 } : Room)) (fun a U => a = #[(.int xx), (.int yy)] ∧ Z.Warmed39 U.vm ∧ U.heap = h0) (fun _ _ _ _ _ => True) (fun _ U o U' => ∃ v L, o = .returned v ∧ Q_rm_min32 Z xx yy h0 n0 v U'.heap L ∧ FrameEnd U o U' L ({ frames := 0, cells := 0, slots := 0, locals := 0 } : Room).cells ({ frames := 0, cells := 0, slots := 0, locals := 0 } : Room).slots) := by
 refine MetFree.of_bodySF (Jvm.Free.JP.mathPlain rfl (by decide +kernel)) hisR ?_
 intro p e s m args below meth c s₁ Bd hml0 hP hK
 obtain ⟨rfl, hZ, hh⟩ := hP
 have hx := Bd.exec
 have hby := Bd.bytes
 have hml : c.maxLocals = 2 := hml0
 have hown : s.vm.findClass "java/lang/Math" = some m.cls := findClass_of_methodNamed Bd.named
 have hnm := (name_of_methodNamed Bd.named Bd.method).1
 have X0 : Stand p l e ({ frames := 0, cells := 0, slots := 0, locals := 0 } : Room) s m #[(.int xx), (.int yy)] below meth c s₁ [] 0 0 := Stand.of_body Bd
 have e0 : s₁.heap = h0 := by rw [← hh, Bd.state]; rfl
 have N0 := Fr.nil n0
 have K00 : Keep h0 h0 [] := Keep.refl _ _
 show Rch p e below s₁ (entryFrame m #[(.int xx), (.int yy)] 2) (FinP s (Q_rm_min32 Z xx yy h0 n0) 0 0)
 refine Rch.cast (ef_rm_min32 m xx yy) ?_
 show Rch p e below s₁ (mkF m 0 #[.val (.int xx), .val (.int yy)] []) _
 refine w_iloadN (pc' := 1) X0 hx hby djdk29m69_0 rfl rfl ?_
 refine w_iloadN (pc' := 2) X0 hx hby djdk29m69_1 rfl rfl ?_
 by_cases c18 : yy < xx
 ·skip
  refine w_icmpYes (pc' := 9) X0 hx hby djdk29m69_2 (XT.ii_gt_t (c18)) (by decide) ?_
  refine w_iloadN (pc' := 10) X0 hx hby djdk29m69_9 rfl rfl ?_
  exact Rch.retV X0 hx Bd.returns rfl (Or.inl ⟨rfl, by simp, _, rfl⟩) (hb hby djdk29m69_10) (by rw [e0]; exact ⟨by simp [own_min32, c18], N0, rfl⟩) (by decide) (by decide)
 ·skip
  refine w_icmpNo (pc' := 5) X0 hx hby djdk29m69_2 (XT.ii_gt_f (c18)) rfl ?_
  refine w_iloadN (pc' := 6) X0 hx hby djdk29m69_5 rfl rfl ?_
  refine w_goto (pc' := 10) X0 hx hby djdk29m69_6 (by decide) ?_
  exact Rch.retV X0 hx Bd.returns rfl (Or.inl ⟨rfl, by simp, _, rfl⟩) (hb hby djdk29m69_10) (by rw [e0]; exact ⟨by simp [own_min32, c18], N0, rfl⟩) (by decide) (by decide)

theorem djdk65m131_0 : decode jdk_65_method_131_code 0 = .ok (.iload_n 1, 1) := by decide +kernel
theorem djdk65m131_1 : decode jdk_65_method_131_code 1 = .ok (.iload_n 0, 1) := by decide +kernel
theorem djdk65m131_2 : decode jdk_65_method_131_code 2 = .ok (.if_icmp .ge 35, 3) := by decide +kernel
theorem djdk65m131_37 : decode jdk_65_method_131_code 37 = .ok (.return_, 1) := by decide +kernel
theorem pn_java_util_Arrays : plainName "java/util/Arrays" = true := by first | (simp [plainName, overriddenIn]; done) | decide +kernel
theorem ef_rm_ckl (m : MethodId) (fr : Int32) (to : Int32)  : entryFrame m #[(.int fr), (.int to)] 2 = mkF m 0 #[.val (.int fr), .val (.int to)] [] := by  first | (simp [entryFrame, mkF, argsToLocals, Value.category, maxLocals]; done) | rfl
def Q_rm_ckl (Z : State) (fr : Int32) (to : Int32) (h0 : Heap) (n0 : Nat) (v : Option Value) (h : Heap) (L : List Loc) : Prop := (v = none) ∧ (Fr n0 L) ∧ (h = h0)
set_option maxRecDepth 65536 in
set_option maxHeartbeats 40000000 in
theorem rm_ckl (l : Launch) (Z : State) (a0 : Array Value) (hw : ∀ d ∈ tables_1, d.before a0 Z = true) (ws : List Jvm.Cond) (fr : Int32) (to : Int32) (h0 : Heap) (n0 : Nat) (Z0 : n0 ≤ h0.size) (hz0 : ¬ to < fr) :
    MetFree l (⟨"java/util/Arrays", "checkLength", "(II)V"⟩ : MethodName) (head1 (Jvm.Cond.code (⟨"java/util/Arrays", "checkLength", "(II)V"⟩ : MethodName) jdk_65_method_131_code 2 none :: ws) ({ frames := 0, cells := 0, slots := 0, locals := 0 } : Room)) (fun a U => a = #[(.int fr), (.int to)] ∧ Z.Warmed39 U.vm ∧ U.heap = h0) (fun _ _ _ _ _ => True) (fun _ U o U' => ∃ v L, o = .returned v ∧ Q_rm_ckl Z fr to h0 n0 v U'.heap L ∧ FrameEnd U o U' L ({ frames := 0, cells := 0, slots := 0, locals := 0 } : Room).cells ({ frames := 0, cells := 0, slots := 0, locals := 0 } : Room).slots) := by
 refine MetFree.of_bodySF (plainFor_of_name pn_java_util_Arrays) hisR ?_
 intro p e s m args below meth c s₁ Bd hml0 hP hK
 obtain ⟨rfl, hZ, hh⟩ := hP
 have hx := Bd.exec
 have hby := Bd.bytes
 have hml : c.maxLocals = 2 := hml0
 have hown : s.vm.findClass "java/util/Arrays" = some m.cls := findClass_of_methodNamed Bd.named
 have hnm := (name_of_methodNamed Bd.named Bd.method).1
 have X0 : Stand p l e ({ frames := 0, cells := 0, slots := 0, locals := 0 } : Room) s m #[(.int fr), (.int to)] below meth c s₁ [] 0 0 := Stand.of_body Bd
 have e0 : s₁.heap = h0 := by rw [← hh, Bd.state]; rfl
 have N0 := Fr.nil n0
 have K00 : Keep h0 h0 [] := Keep.refl _ _
 show Rch p e below s₁ (entryFrame m #[(.int fr), (.int to)] 2) (FinP s (Q_rm_ckl Z fr to h0 n0) 0 0)
 refine Rch.cast (ef_rm_ckl m fr to) ?_
 show Rch p e below s₁ (mkF m 0 #[.val (.int fr), .val (.int to)] []) _
 refine w_iloadN (pc' := 1) X0 hx hby djdk65m131_0 rfl rfl ?_
 refine w_iloadN (pc' := 2) X0 hx hby djdk65m131_1 rfl rfl ?_
 refine w_icmpYes (pc' := 37) X0 hx hby djdk65m131_2 (XT.ii_ge_t (hz0)) (by decide) ?_
 exact Rch.ret0 X0 hx Bd.returns (hb hby djdk65m131_37) (by rw [e0]; exact ⟨rfl, N0, rfl⟩) (by decide) (by decide)

theorem djdk65m133_0 : decode jdk_65_method_133_code 0 = .ok (.iload_n 1, 1) := by decide +kernel
theorem djdk65m133_1 : decode jdk_65_method_133_code 1 = .ok (.iload_n 2, 1) := by decide +kernel
theorem djdk65m133_2 : decode jdk_65_method_133_code 2 = .ok (.invokestatic 343, 3) := by decide +kernel
theorem djdk65m133_5 : decode jdk_65_method_133_code 5 = .ok (.iload_n 2, 1) := by decide +kernel
theorem djdk65m133_6 : decode jdk_65_method_133_code 6 = .ok (.iload_n 1, 1) := by decide +kernel
theorem djdk65m133_7 : decode jdk_65_method_133_code 7 = .ok (.isub, 1) := by decide +kernel
theorem djdk65m133_8 : decode jdk_65_method_133_code 8 = .ok (.istore_n 3, 1) := by decide +kernel
theorem djdk65m133_9 : decode jdk_65_method_133_code 9 = .ok (.iload_n 3, 1) := by decide +kernel
theorem djdk65m133_10 : decode jdk_65_method_133_code 10 = .ok (.newarray .byte, 2) := by decide +kernel
theorem djdk65m133_12 : decode jdk_65_method_133_code 12 = .ok (.astore 4, 2) := by decide +kernel
theorem djdk65m133_14 : decode jdk_65_method_133_code 14 = .ok (.aload_n 0, 1) := by decide +kernel
theorem djdk65m133_15 : decode jdk_65_method_133_code 15 = .ok (.iload_n 1, 1) := by decide +kernel
theorem djdk65m133_16 : decode jdk_65_method_133_code 16 = .ok (.aload 4, 2) := by decide +kernel
theorem djdk65m133_18 : decode jdk_65_method_133_code 18 = .ok (.iconst 0, 1) := by decide +kernel
theorem djdk65m133_19 : decode jdk_65_method_133_code 19 = .ok (.aload_n 0, 1) := by decide +kernel
theorem djdk65m133_20 : decode jdk_65_method_133_code 20 = .ok (.arraylength, 1) := by decide +kernel
theorem djdk65m133_21 : decode jdk_65_method_133_code 21 = .ok (.iload_n 1, 1) := by decide +kernel
theorem djdk65m133_22 : decode jdk_65_method_133_code 22 = .ok (.isub, 1) := by decide +kernel
theorem djdk65m133_23 : decode jdk_65_method_133_code 23 = .ok (.iload_n 3, 1) := by decide +kernel
theorem djdk65m133_24 : decode jdk_65_method_133_code 24 = .ok (.invokestatic 304, 3) := by decide +kernel
theorem djdk65m133_27 : decode jdk_65_method_133_code 27 = .ok (.invokestatic 150, 3) := by decide +kernel
theorem djdk65m133_30 : decode jdk_65_method_133_code 30 = .ok (.aload 4, 2) := by decide +kernel
theorem djdk65m133_32 : decode jdk_65_method_133_code 32 = .ok (.areturn, 1) := by decide +kernel
theorem ef_rm_crb (m : MethodId) (bb : Addr) (kb : ClassId) (nn : Int32) (vs : List Value) (dd : Value) (en : Int32)  : entryFrame m #[(.ref bb), (.int (0 : Int32)), (.int en)] 5 = mkF m 0 #[.val (.ref bb), .val (.int (0 : Int32)), .val (.int en), .unset, .unset] [] := by  first | (simp [entryFrame, mkF, argsToLocals, Value.category, maxLocals]; done) | rfl
def Q_rm_crb (Z : State) (bb : Addr) (kb : ClassId) (nn : Int32) (vs : List Value) (dd : Value) (en : Int32) (h0 : Heap) (n0 : Nat) (v : Option Value) (h : Heap) (L : List Loc) : Prop := ∃ (t : Addr) (kt : ClassId), (v = some (.ref t)) ∧ (Fr n0 L) ∧ (Keep h0 h []) ∧ (h0.size ≤ t) ∧ (Arv Z h t kt .byte en (own_take vs dd en.toNatClampNeg) (.int (0 : Int32)))
theorem pd__II_I : parseMethodDescriptor "(II)I" = some ⟨[.int, .int], (some .int)⟩ := by decide +kernel
set_option maxRecDepth 65536 in
set_option maxHeartbeats 40000000 in
theorem rm_crb (l : Launch) (Z : State) (a0 : Array Value) (hw : ∀ d ∈ tables_1, d.before a0 Z = true) (ws : List Jvm.Cond) (bb : Addr) (kb : ClassId) (nn : Int32) (vs : List Value) (dd : Value) (en : Int32) (h0 : Heap) (n0 : Nat) (Z0 : n0 ≤ h0.size) (f0 : Arv Z h0 bb kb .byte nn vs dd) (hz0 : ¬ en < 0) (hc : en.toNatClampNeg ≤ 16) (hm : own_min32 nn en = en) (hl : en.toNatClampNeg ≤ nn.toNatClampNeg) :
    MetFree l (⟨"java/util/Arrays", "copyOfRangeByte", "([BII)[B"⟩ : MethodName) (head1 (Jvm.Cond.code (⟨"java/util/Arrays", "copyOfRangeByte", "([BII)[B"⟩ : MethodName) jdk_65_method_133_code 5 (some (.array .byte)) :: ws) ({ frames := 1, cells := 1, slots := 16, locals := 18 } : Room)) (fun a U => a = #[(.ref bb), (.int (0 : Int32)), (.int en)] ∧ Z.Warmed39 U.vm ∧ U.heap = h0) (fun _ _ _ _ _ => True) (fun _ U o U' => ∃ v L, o = .returned v ∧ Q_rm_crb Z bb kb nn vs dd en h0 n0 v U'.heap L ∧ FrameEnd U o U' L ({ frames := 1, cells := 1, slots := 16, locals := 18 } : Room).cells ({ frames := 1, cells := 1, slots := 16, locals := 18 } : Room).slots) := by
 refine MetFree.of_bodySF (plainFor_of_name pn_java_util_Arrays) hisR ?_
 intro p e s m args below meth c s₁ Bd hml0 hP hK
 obtain ⟨rfl, hZ, hh⟩ := hP
 have hx := Bd.exec
 have hby := Bd.bytes
 have hml : c.maxLocals = 5 := hml0
 have hown : s.vm.findClass "java/util/Arrays" = some m.cls := findClass_of_methodNamed Bd.named
 have hnm := (name_of_methodNamed Bd.named Bd.method).1
 have X0 : Stand p l e ({ frames := 1, cells := 1, slots := 16, locals := 18 } : Room) s m #[(.ref bb), (.int (0 : Int32)), (.int en)] below meth c s₁ [] 0 0 := Stand.of_body Bd
 have e0 : s₁.heap = h0 := by rw [← hh, Bd.state]; rfl
 have N0 := Fr.nil n0
 have K00 : Keep h0 h0 [] := Keep.refl _ _
 show Rch p e below s₁ (entryFrame m #[(.ref bb), (.int (0 : Int32)), (.int en)] 5) (FinP s (Q_rm_crb Z bb kb nn vs dd en h0 n0) 1 16)
 refine Rch.cast (ef_rm_crb m bb kb nn vs dd en) ?_
 show Rch p e below s₁ (mkF m 0 #[.val (.ref bb), .val (.int 0), .val (.int en), .unset, .unset] []) _
 refine w_iloadN (pc' := 1) X0 hx hby djdk65m133_0 rfl rfl ?_
 refine w_iloadN (pc' := 2) X0 hx hby djdk65m133_1 rfl rfl ?_
 obtain ⟨_, _, ⟨T19, L19, k19, n19⟩, -, X19, ⟨Lc19, hQ19, l19, y19, z19⟩, st19⟩ := Jvm.LawKit.callS X0 hx (y := (⟨"java/util/Arrays", "checkLength", "(II)V"⟩ : MethodName)) hown (mvT hZ (wi hw 145 rfl)) (mvT hZ (wi hw 146 rfl)) (mvT hZ (wi hw 140 rfl)) (mvT hZ (wi hw 147 rfl)) (by decide) (backOf (W := 0) (rm_ckl l Z a0 hw [] 0 en h0 n0 Z0 (hz0)) hZ (wi hw 147 rfl) (wi hw 140 rfl) (by decide) (by decide)) (g := (mkF m 2 #[.val (.ref bb), .val (.int 0), .val (.int en), .unset, .unset] [(.int en), (.int 0)])) rfl (by rw [hml]; rfl) (argsL := [(.int 0), (.int en)]) (rest := []) (lenOf pd__II_V rfl) rfl (by show 2 * 0 + _ ≤ _; exact Nat.le_of_eq rfl) (hb hby djdk65m133_2) (fun _ _ => ⟨rfl, e0, (by decide : 0 + 0 ≤ _), (by decide : 0 + 0 ≤ _)⟩)
 dsimp only [Pt.U, Pt.locs, Pt.cells, Pt.slots] at X19 l19 y19 z19 st19 hQ19
 subst l19 y19 z19
 obtain ⟨rfl, NQ19, K19⟩ := hQ19
 have N20 := Fr.app N0 NQ19
 refine Rch.st (fun _ k => st19 _ k) ?_
 show Rch p e below T19 (mkF m 5 #[.val (.ref bb), .val (.int 0), .val (.int en), .unset, .unset] []) _
 refine w_iloadN (pc' := 6) X19 hx hby djdk65m133_5 rfl rfl ?_
 refine w_iloadN (pc' := 7) X19 hx hby djdk65m133_6 rfl rfl ?_
 refine w_isub (pc' := 8) X19 hx hby djdk65m133_7 rfl ?_
 have r21 : (en - (0 : Int32)) = en := by simp
 rw [r21]
 show Rch p e below T19 (mkF m 8 #[.val (.ref bb), .val (.int 0), .val (.int en), .unset, .unset] [(.int en)]) _
 refine w_istoreN (pc' := 9) (l' := #[.val (.ref bb), .val (.int 0), .val (.int en), .val (.int en), .unset]) X19 hx hby djdk65m133_8 rfl rfl ?_
 refine w_iloadN (pc' := 10) X19 hx hby djdk65m133_9 rfl rfl ?_
 obtain ⟨T22, h22, kc22, X22, e22, E22, A22, st22⟩ := newP X19 hx hZ (wi hw 8 rfl) K19 (g := (mkF m 10 #[.val (.ref bb), .val (.int 0), .val (.int en), .val (.int en), .unset] [(.int en)])) rfl (hb hby djdk65m133_10) rfl (hz0) (cap := 16) (hc) (by decide) (by decide) (by decide)
 obtain ⟨a22, g22⟩ : ∃ z, z = h0.size := ⟨_, rfl⟩
 rw [← g22] at A22 st22
 have ge24 : n0 ≤ a22 := Nat.le_trans Z0 (Nat.le_of_eq g22.symm)
 have f26 := f0.ext E22
 have Z27 := Nat.le_trans Z0 E22.1
 have Kp28 : Keep h0 h22 [] := K00.ext E22
 have f29 : Arv Z h22 a22 kc22 .byte en ([] : List Value) (Value.int (0 : Int32)) := Arv.new A22 (hz0)
 refine Rch.st (fun _ k => st22 _ k) ?_
 show Rch p e below T22 (mkF m 12 #[.val (.ref bb), .val (.int 0), .val (.int en), .val (.int en), .unset] [(.ref a22)]) _
 refine w_astore (pc' := 14) (l' := #[.val (.ref bb), .val (.int 0), .val (.int en), .val (.int en), .val (.ref a22)]) X22 hx hby djdk65m133_12 rfl rfl rfl ?_
 refine w_aloadN (pc' := 15) X22 hx hby djdk65m133_14 rfl rfl rfl ?_
 refine w_iloadN (pc' := 16) X22 hx hby djdk65m133_15 rfl rfl ?_
 refine w_aload (pc' := 18) X22 hx hby djdk65m133_16 rfl rfl rfl ?_
 refine w_iconst (pc' := 19) (v := 0) X22 hx hby djdk65m133_18 rfl rfl ?_
 refine w_aloadN (pc' := 20) X22 hx hby djdk65m133_19 rfl rfl rfl ?_
 refine Rch.st (fun _ k => own_alen X22 hx hZ e22 f26 rfl rfl (hb hby djdk65m133_20) k) ?_
 show Rch p e below T22 (mkF m 21 #[.val (.ref bb), .val (.int 0), .val (.int en), .val (.int en), .val (.ref a22)] [(.int nn), (.int 0), (.ref a22), (.int 0), (.ref bb)]) _
 refine w_iloadN (pc' := 22) X22 hx hby djdk65m133_21 rfl rfl ?_
 refine w_isub (pc' := 23) X22 hx hby djdk65m133_22 rfl ?_
 have r30 : (nn - (0 : Int32)) = nn := by simp
 rw [r30]
 show Rch p e below T22 (mkF m 23 #[.val (.ref bb), .val (.int 0), .val (.int en), .val (.int en), .val (.ref a22)] [(.int nn), (.int 0), (.ref a22), (.int 0), (.ref bb)]) _
 refine w_iloadN (pc' := 24) X22 hx hby djdk65m133_23 rfl rfl ?_
 obtain ⟨_, _, ⟨T31, L31, k31, n31⟩, -, X31, ⟨Lc31, hQ31, l31, y31, z31⟩, st31⟩ := Jvm.LawKit.callS X22 hx (y := (⟨"java/lang/Math", "min", "(II)I"⟩ : MethodName)) hown (mvT hZ (wi hw 148 rfl)) (mvT hZ (wi hw 149 rfl)) (mvT hZ (wi hw 150 rfl)) (mvT hZ (wi hw 151 rfl)) (by decide) (backOf (W := 4) (rm_min32 l Z a0 hw [] nn en h22 n0 Z27 ) hZ (wi hw 151 rfl) (wi hw 150 rfl) (by decide) (by decide)) (g := (mkF m 24 #[.val (.ref bb), .val (.int 0), .val (.int en), .val (.int en), .val (.ref a22)] [(.int en), (.int nn), (.int 0), (.ref a22), (.int 0), (.ref bb)])) rfl (by rw [hml]; rfl) (argsL := [(.int nn), (.int en)]) (rest := [(.int 0), (.ref a22), (.int 0), (.ref bb)]) (lenOf pd__II_I rfl) rfl (by show 2 * 0 + _ ≤ _; exact Nat.le_of_eq rfl) (hb hby djdk65m133_24) (fun _ _ => ⟨rfl, e22, (by decide : 1 + 0 ≤ _), (by decide : 16 + 0 ≤ _)⟩)
 dsimp only [Pt.U, Pt.locs, Pt.cells, Pt.slots] at X31 l31 y31 z31 st31 hQ31
 subst l31 y31 z31
 obtain ⟨rfl, NQ31, K31⟩ := hQ31
 have N32 := Fr.app N20 NQ31
 refine Rch.st (fun _ k => st31 _ k) ?_
 show Rch p e below T31 (mkF m 27 #[.val (.ref bb), .val (.int 0), .val (.int en), .val (.int en), .val (.ref a22)] [(.int (own_min32 nn en)), (.int 0), (.ref a22), (.int 0), (.ref bb)]) _
 have r33 : (own_min32 nn en) = en := hm
 rw [r33]
 show Rch p e below T31 (mkF m 27 #[.val (.ref bb), .val (.int 0), .val (.int en), .val (.int en), .val (.ref a22)] [(.int en), (.int 0), (.ref a22), (.int 0), (.ref bb)]) _
 have f34 : Arv Z h22 a22 kc22 .byte en (([] : List Value) ++ List.replicate en.toNatClampNeg (Value.int (0 : Int32))) (Value.int (0 : Int32)) := f29.pad (pad_rep ([] : List Value) (Value.int (0 : Int32)) en.toNatClampNeg)
 obtain ⟨T35, h35, L35, X35, e35, N35, K35, V35, st35⟩ := cpA (us := (own_take vs dd en.toNatClampNeg)) X31 hx hZ hown (wi hw 152 rfl) (wi hw 105 rfl) (wi hw 103 rfl) (wi hw 104 rfl) K31 f26 f34 (Or.inl ⟨rfl, rfl⟩) (by decide) (by decide) (hz0) (by rw [own_z0, Nat.zero_add]; exact hl) (by rw [own_z0, Nat.zero_add]; exact Nat.le_refl _) (own_take_hus _ _ _) (by rw [own_z0]; simp) N32 ge24 (g := (mkF m 27 #[.val (.ref bb), .val (.int 0), .val (.int en), .val (.int en), .val (.ref a22)] [(.int en), (.int 0), (.ref a22), (.int 0), (.ref bb)])) rfl (by rw [hml]; rfl) rfl (hb hby djdk65m133_27) (by decide) (W := 0) (by show 2 * 0 + _ ≤ _; exact Nat.le_of_eq rfl) (by decide)
 have Kp38 : Keep h0 h35 [] := Kp28.trans K35 (allS (Or.inr (Nat.le_trans K00.1 (Nat.le_of_eq g22.symm))) all0)
 have f39 : Arv Z h35 a22 kc22 .byte en (own_take vs dd en.toNatClampNeg) (Value.int (0 : Int32)) := by have z := V35; rw [show (([] : List Value) ++ List.replicate en.toNatClampNeg (Value.int (0 : Int32))).take (0 : Int32).toNatClampNeg ++ (own_take vs dd en.toNatClampNeg) ++ (([] : List Value) ++ List.replicate en.toNatClampNeg (Value.int (0 : Int32))).drop ((0 : Int32).toNatClampNeg + en.toNatClampNeg) = (own_take vs dd en.toNatClampNeg) from by rw [own_z0]; simp] at z; exact z
 refine Rch.st (fun _ k => st35 _ k) ?_
 show Rch p e below T35 (mkF m 30 #[.val (.ref bb), .val (.int 0), .val (.int en), .val (.int en), .val (.ref a22)] []) _
 refine w_aload (pc' := 32) X35 hx hby djdk65m133_30 rfl rfl rfl ?_
 exact Rch.retV X35 hx Bd.returns rfl (Or.inr (Or.inr (Or.inr (Or.inr ⟨rfl, rfl, rfl⟩)))) (hb hby djdk65m133_32) (by rw [e35]; exact ⟨a22, kc22, rfl, N35, Kp38, (Nat.le_trans K00.1 (Nat.le_of_eq g22.symm)), f39⟩) (by decide) (by decide)

theorem djdk65m132_0 : decode jdk_65_method_132_code 0 = .ok (.iload_n 1, 1) := by decide +kernel
theorem djdk65m132_1 : decode jdk_65_method_132_code 1 = .ok (.ifCond .ne 9, 3) := by decide +kernel
theorem djdk65m132_4 : decode jdk_65_method_132_code 4 = .ok (.iload_n 2, 1) := by decide +kernel
theorem djdk65m132_5 : decode jdk_65_method_132_code 5 = .ok (.aload_n 0, 1) := by decide +kernel
theorem djdk65m132_6 : decode jdk_65_method_132_code 6 = .ok (.arraylength, 1) := by decide +kernel
theorem djdk65m132_7 : decode jdk_65_method_132_code 7 = .ok (.if_icmp .eq 10, 3) := by decide +kernel
theorem djdk65m132_10 : decode jdk_65_method_132_code 10 = .ok (.aload_n 0, 1) := by decide +kernel
theorem djdk65m132_11 : decode jdk_65_method_132_code 11 = .ok (.iload_n 1, 1) := by decide +kernel
theorem djdk65m132_12 : decode jdk_65_method_132_code 12 = .ok (.iload_n 2, 1) := by decide +kernel
theorem djdk65m132_13 : decode jdk_65_method_132_code 13 = .ok (.invokestatic 339, 3) := by decide +kernel
theorem djdk65m132_16 : decode jdk_65_method_132_code 16 = .ok (.areturn, 1) := by decide +kernel
theorem ef_rm_cr (m : MethodId) (bb : Addr) (kb : ClassId) (nn : Int32) (vs : List Value) (dd : Value) (en : Int32)  : entryFrame m #[(.ref bb), (.int (0 : Int32)), (.int en)] 3 = mkF m 0 #[.val (.ref bb), .val (.int (0 : Int32)), .val (.int en)] [] := by  first | (simp [entryFrame, mkF, argsToLocals, Value.category, maxLocals]; done) | rfl
def Q_rm_cr (Z : State) (bb : Addr) (kb : ClassId) (nn : Int32) (vs : List Value) (dd : Value) (en : Int32) (h0 : Heap) (n0 : Nat) (v : Option Value) (h : Heap) (L : List Loc) : Prop := ∃ (t : Addr) (kt : ClassId), (v = some (.ref t)) ∧ (Fr n0 L) ∧ (Keep h0 h []) ∧ (h0.size ≤ t) ∧ (Arv Z h t kt .byte en (own_take vs dd en.toNatClampNeg) (.int (0 : Int32)))
theorem pd___BII__B : parseMethodDescriptor "([BII)[B" = some ⟨[(.array .byte), .int, .int], (some (.array .byte))⟩ := by decide +kernel
set_option maxRecDepth 65536 in
set_option maxHeartbeats 40000000 in
theorem rm_cr (l : Launch) (Z : State) (a0 : Array Value) (hw : ∀ d ∈ tables_1, d.before a0 Z = true) (ws : List Jvm.Cond) (bb : Addr) (kb : ClassId) (nn : Int32) (vs : List Value) (dd : Value) (en : Int32) (h0 : Heap) (n0 : Nat) (Z0 : n0 ≤ h0.size) (f0 : Arv Z h0 bb kb .byte nn vs dd) (hz0 : ¬ en < 0) (hc : en.toNatClampNeg ≤ 16) (hm : own_min32 nn en = en) (hl : en.toNatClampNeg ≤ nn.toNatClampNeg) (hne : ¬ en = nn) :
    MetFree l (⟨"java/util/Arrays", "copyOfRange", "([BII)[B"⟩ : MethodName) (head1 (Jvm.Cond.code (⟨"java/util/Arrays", "copyOfRange", "([BII)[B"⟩ : MethodName) jdk_65_method_132_code 3 (some (.array .byte)) :: ws) ({ frames := 2, cells := 1, slots := 16, locals := 34 } : Room)) (fun a U => a = #[(.ref bb), (.int (0 : Int32)), (.int en)] ∧ Z.Warmed39 U.vm ∧ U.heap = h0) (fun _ _ _ _ _ => True) (fun _ U o U' => ∃ v L, o = .returned v ∧ Q_rm_cr Z bb kb nn vs dd en h0 n0 v U'.heap L ∧ FrameEnd U o U' L ({ frames := 2, cells := 1, slots := 16, locals := 34 } : Room).cells ({ frames := 2, cells := 1, slots := 16, locals := 34 } : Room).slots) := by
 refine MetFree.of_bodySF (plainFor_of_name pn_java_util_Arrays) hisR ?_
 intro p e s m args below meth c s₁ Bd hml0 hP hK
 obtain ⟨rfl, hZ, hh⟩ := hP
 have hx := Bd.exec
 have hby := Bd.bytes
 have hml : c.maxLocals = 3 := hml0
 have hown : s.vm.findClass "java/util/Arrays" = some m.cls := findClass_of_methodNamed Bd.named
 have hnm := (name_of_methodNamed Bd.named Bd.method).1
 have X0 : Stand p l e ({ frames := 2, cells := 1, slots := 16, locals := 34 } : Room) s m #[(.ref bb), (.int (0 : Int32)), (.int en)] below meth c s₁ [] 0 0 := Stand.of_body Bd
 have e0 : s₁.heap = h0 := by rw [← hh, Bd.state]; rfl
 have N0 := Fr.nil n0
 have K00 : Keep h0 h0 [] := Keep.refl _ _
 show Rch p e below s₁ (entryFrame m #[(.ref bb), (.int (0 : Int32)), (.int en)] 3) (FinP s (Q_rm_cr Z bb kb nn vs dd en h0 n0) 1 16)
 refine Rch.cast (ef_rm_cr m bb kb nn vs dd en) ?_
 show Rch p e below s₁ (mkF m 0 #[.val (.ref bb), .val (.int 0), .val (.int en)] []) _
 refine w_iloadN (pc' := 1) X0 hx hby djdk65m132_0 rfl rfl ?_
 refine w_ifNo (pc' := 4) X0 hx hby djdk65m132_1 (XT.i0_ne_f (by decide)) rfl ?_
 refine w_iloadN (pc' := 5) X0 hx hby djdk65m132_4 rfl rfl ?_
 refine w_aloadN (pc' := 6) X0 hx hby djdk65m132_5 rfl rfl rfl ?_
 refine Rch.st (fun _ k => own_alen X0 hx hZ e0 f0 rfl rfl (hb hby djdk65m132_6) k) ?_
 show Rch p e below s₁ (mkF m 7 #[.val (.ref bb), .val (.int 0), .val (.int en)] [(.int nn), (.int en)]) _
 refine w_icmpNo (pc' := 10) X0 hx hby djdk65m132_7 (XT.ii_eq_f (hne)) rfl ?_
 refine w_aloadN (pc' := 11) X0 hx hby djdk65m132_10 rfl rfl rfl ?_
 refine w_iloadN (pc' := 12) X0 hx hby djdk65m132_11 rfl rfl ?_
 refine w_iloadN (pc' := 13) X0 hx hby djdk65m132_12 rfl rfl ?_
 obtain ⟨_, _, ⟨T40, L40, k40, n40⟩, -, X40, ⟨Lc40, hQ40, l40, y40, z40⟩, st40⟩ := Jvm.LawKit.callS X0 hx (y := (⟨"java/util/Arrays", "copyOfRangeByte", "([BII)[B"⟩ : MethodName)) hown (mvT hZ (wi hw 142 rfl)) (mvT hZ (wi hw 143 rfl)) (mvT hZ (wi hw 140 rfl)) (mvT hZ (wi hw 144 rfl)) (by decide) (backOf (W := 0) (rm_crb l Z a0 hw [] bb kb nn vs dd en h0 n0 Z0 f0 (hz0) (hc) (hm) (hl)) hZ (wi hw 144 rfl) (wi hw 140 rfl) (by decide) (by decide)) (g := (mkF m 13 #[.val (.ref bb), .val (.int 0), .val (.int en)] [(.int en), (.int 0), (.ref bb)])) rfl (by rw [hml]; rfl) (argsL := [(.ref bb), (.int 0), (.int en)]) (rest := []) (lenOf pd___BII__B rfl) rfl (by show 2 * 0 + _ ≤ _; exact Nat.le_of_eq rfl) (hb hby djdk65m132_13) (fun _ _ => ⟨rfl, e0, (by decide : 0 + 1 ≤ _), (by decide : 0 + 16 ≤ _)⟩)
 dsimp only [Pt.U, Pt.locs, Pt.cells, Pt.slots] at X40 l40 y40 z40 st40 hQ40
 subst l40 y40 z40
 obtain ⟨t_40, kt_40, rfl, NQ40, K40, pq40_0, fq40_0⟩ := hQ40
 have N41 := Fr.app N0 NQ40
 have Kp45 : Keep h0 T40.heap [] := K00.trans K40 all0
 refine Rch.st (fun _ k => st40 _ k) ?_
 show Rch p e below T40 (mkF m 16 #[.val (.ref bb), .val (.int 0), .val (.int en)] [(.ref t_40)]) _
 exact Rch.retV X40 hx Bd.returns rfl (Or.inr (Or.inr (Or.inr (Or.inr ⟨rfl, rfl, rfl⟩)))) (hb hby djdk65m132_16) (by rw [(rfl : T40.heap = T40.heap)]; exact ⟨t_40, kt_40, rfl, N41, Kp45, (Nat.le_trans K00.1 pq40_0), fq40_0⟩) (by decide) (by decide)

theorem djdk42m151_0 : decode jdk_42_method_151_code 0 = .ok (.aload_n 0, 1) := by decide +kernel
theorem djdk42m151_1 : decode jdk_42_method_151_code 1 = .ok (.invokespecial 1, 3) := by decide +kernel
theorem djdk42m151_4 : decode jdk_42_method_151_code 4 = .ok (.aload_n 0, 1) := by decide +kernel
theorem djdk42m151_5 : decode jdk_42_method_151_code 5 = .ok (.aload_n 1, 1) := by decide +kernel
theorem djdk42m151_6 : decode jdk_42_method_151_code 6 = .ok (.putfield 9, 3) := by decide +kernel
theorem djdk42m151_9 : decode jdk_42_method_151_code 9 = .ok (.aload_n 0, 1) := by decide +kernel
theorem djdk42m151_10 : decode jdk_42_method_151_code 10 = .ok (.iload_n 2, 1) := by decide +kernel
theorem djdk42m151_11 : decode jdk_42_method_151_code 11 = .ok (.putfield 15, 3) := by decide +kernel
theorem djdk42m151_14 : decode jdk_42_method_151_code 14 = .ok (.return_, 1) := by decide +kernel
theorem ef_rm_BB (m : MethodId) (a5 : Addr) (bb : Addr)  : entryFrame m #[(.ref a5), (.ref bb), (.int (0 : Int32))] 3 = mkF m 0 #[.val (.ref a5), .val (.ref bb), .val (.int (0 : Int32))] [] := by  first | (simp [entryFrame, mkF, argsToLocals, Value.category, maxLocals]; done) | rfl
def Q_rm_BB (Z : State) (a5 : Addr) (bb : Addr) (h0 : Heap) (n0 : Nat) (v : Option Value) (h : Heap) (L : List Loc) : Prop := (v = none) ∧ (Fr n0 L) ∧ (Keep h0 h [a5]) ∧ (Fld Z h a5 "java/lang/String" "coder" "B" (.int (0 : Int32))) ∧ (Fld Z h a5 "java/lang/String" "value" "[B" (.ref bb))
set_option maxRecDepth 65536 in
set_option maxHeartbeats 40000000 in
theorem rm_BB (l : Launch) (Z : State) (a0 : Array Value) (hw : ∀ d ∈ tables_1, d.before a0 Z = true) (ws : List Jvm.Cond) (a5 : Addr) (bb : Addr) (h0 : Heap) (n0 : Nat) (Z0 : n0 ≤ h0.size) (f0 : Exa Z h0 a5 "java/lang/String") (f1 : Fld Z h0 a5 "java/lang/String" "coder" "B" (.int (0 : Int32))) (f2 : Fld Z h0 a5 "java/lang/String" "value" "[B" .null) (ga : n0 ≤ a5) :
    MetFree l (⟨"java/lang/String", "<init>", "([BB)V"⟩ : MethodName) (head1 (Jvm.Cond.code (⟨"java/lang/String", "<init>", "([BB)V"⟩ : MethodName) jdk_42_method_151_code 3 none :: ws) ({ frames := 1, cells := 0, slots := 0, locals := 12 } : Room)) (fun a U => a = #[(.ref a5), (.ref bb), (.int (0 : Int32))] ∧ Z.Warmed39 U.vm ∧ U.heap = h0) (fun _ _ _ _ _ => True) (fun _ U o U' => ∃ v L, o = .returned v ∧ Q_rm_BB Z a5 bb h0 n0 v U'.heap L ∧ FrameEnd U o U' L ({ frames := 1, cells := 0, slots := 0, locals := 12 } : Room).cells ({ frames := 1, cells := 0, slots := 0, locals := 12 } : Room).slots) := by
 refine MetFree.of_bodySF (plainFor_of_name pn_java_lang_String) hisR ?_
 intro p e s m args below meth c s₁ Bd hml0 hP hK
 obtain ⟨rfl, hZ, hh⟩ := hP
 have hx := Bd.exec
 have hby := Bd.bytes
 have hml : c.maxLocals = 3 := hml0
 have hown : s.vm.findClass "java/lang/String" = some m.cls := findClass_of_methodNamed Bd.named
 have hnm := (name_of_methodNamed Bd.named Bd.method).1
 have X0 : Stand p l e ({ frames := 1, cells := 0, slots := 0, locals := 12 } : Room) s m #[(.ref a5), (.ref bb), (.int (0 : Int32))] below meth c s₁ [] 0 0 := Stand.of_body Bd
 have e0 : s₁.heap = h0 := by rw [← hh, Bd.state]; rfl
 have N0 := Fr.nil n0
 have K00 : Keep h0 h0 [a5] := Keep.refl _ _
 show Rch p e below s₁ (entryFrame m #[(.ref a5), (.ref bb), (.int (0 : Int32))] 3) (FinP s (Q_rm_BB Z a5 bb h0 n0) 0 0)
 refine Rch.cast (ef_rm_BB m a5 bb) ?_
 show Rch p e below s₁ (mkF m 0 #[.val (.ref a5), .val (.ref bb), .val (.int 0)] []) _
 refine w_aloadN (pc' := 1) X0 hx hby djdk42m151_0 rfl rfl rfl ?_
 obtain ⟨T47, X47, e47, st47⟩ := initO X0 hx hZ hown (wi hw 119 rfl) (wi hw 25 rfl) (wi hw 26 rfl) e0 (g := (mkF m 1 #[.val (.ref a5), .val (.ref bb), .val (.int 0)] [(.ref a5)])) rfl (by rw [hml]; rfl) rfl (hb hby djdk42m151_1) (by decide) (W := 0) (by show 2 * 0 + _ ≤ _; exact Nat.le_of_eq rfl) (by decide)
 refine Rch.st (fun _ k => st47 _ k) ?_
 show Rch p e below T47 (mkF m 4 #[.val (.ref a5), .val (.ref bb), .val (.int 0)] []) _
 refine w_aloadN (pc' := 5) X47 hx hby djdk42m151_4 rfl rfl rfl ?_
 refine w_aloadN (pc' := 6) X47 hx hby djdk42m151_5 rfl rfl rfl ?_
 obtain ⟨T48, h48, X48, e48, W48, st48⟩ := putF X47 hx hZ hown (host := "") (Or.inl (wi hw 71 rfl)) Via.refl e47 f2 f0 (Or.inr ⟨(wi hw 9 rfl), rfl, hnm⟩) (wi hw 7 rfl) (ty := (.array .byte)) (by decide) rfl rfl (g := (mkF m 6 #[.val (.ref a5), .val (.ref bb), .val (.int 0)] [(.ref bb), (.ref a5)])) rfl rfl (hb hby djdk42m151_6)
 have N49 := Fr.snoc X48 N0 ga
 have f50 := f0.wr W48
 have f51 := f1.other W48 (Or.inr (slot_ne (t := .byte) (t' := (.array .byte)) (Or.inr (wi hw 10 rfl)) (Or.inr (wi hw 9 rfl)) (by decide) (by decide) (by decide)))
 have f52 := f2.same W48
 have Kp54 : Keep h0 h48 [a5] := K00.wr W48 (Or.inl (List.mem_of_getElem? (i := 0) rfl))
 refine Rch.st (fun _ k => st48 _ k) ?_
 show Rch p e below T48 (mkF m 9 #[.val (.ref a5), .val (.ref bb), .val (.int 0)] []) _
 refine w_aloadN (pc' := 10) X48 hx hby djdk42m151_9 rfl rfl rfl ?_
 refine w_iloadN (pc' := 11) X48 hx hby djdk42m151_10 rfl rfl ?_
 obtain ⟨T55, h55, X55, e55, W55, st55⟩ := putF X48 hx hZ hown (host := "") (Or.inl (wi hw 78 rfl)) Via.refl e48 f51 f50 (Or.inr ⟨(wi hw 10 rfl), rfl, hnm⟩) (wi hw 7 rfl) (ty := .byte) (by decide) rfl rfl (g := (mkF m 11 #[.val (.ref a5), .val (.ref bb), .val (.int 0)] [(.int 0), (.ref a5)])) rfl rfl (hb hby djdk42m151_11)
 have N56 := Fr.snoc X55 N49 ga
 have f58 := f51.same W55
 have f59 := f52.other W55 (Or.inr (slot_ne (t := (.array .byte)) (t' := .byte) (Or.inr (wi hw 9 rfl)) (Or.inr (wi hw 10 rfl)) (by decide) (by decide) (by decide)))
 have Kp61 : Keep h0 h55 [a5] := Kp54.wr W55 (Or.inl (List.mem_of_getElem? (i := 0) rfl))
 refine Rch.st (fun _ k => st55 _ k) ?_
 show Rch p e below T55 (mkF m 14 #[.val (.ref a5), .val (.ref bb), .val (.int 0)] []) _
 exact Rch.ret0 X55 hx Bd.returns (hb hby djdk42m151_14) (by rw [e55]; exact ⟨rfl, N56, Kp61, f58, f59⟩) (by decide) (by decide)

theorem djdk68m2_0 : decode jdk_68_method_2_code 0 = .ok (.aload_n 0, 1) := by decide +kernel
theorem djdk68m2_1 : decode jdk_68_method_2_code 1 = .ok (.invokespecial 3, 3) := by decide +kernel
theorem djdk68m2_4 : decode jdk_68_method_2_code 4 = .ok (.getstatic 18, 3) := by decide +kernel
theorem djdk68m2_7 : decode jdk_68_method_2_code 7 = .ok (.ifCond .eq 18, 3) := by decide +kernel
theorem djdk68m2_10 : decode jdk_68_method_2_code 10 = .ok (.aload_n 0, 1) := by decide +kernel
theorem djdk68m2_11 : decode jdk_68_method_2_code 11 = .ok (.iload_n 1, 1) := by decide +kernel
theorem djdk68m2_12 : decode jdk_68_method_2_code 12 = .ok (.newarray .byte, 2) := by decide +kernel
theorem djdk68m2_14 : decode jdk_68_method_2_code 14 = .ok (.putfield 15, 3) := by decide +kernel
theorem djdk68m2_17 : decode jdk_68_method_2_code 17 = .ok (.aload_n 0, 1) := by decide +kernel
theorem djdk68m2_18 : decode jdk_68_method_2_code 18 = .ok (.iconst 0, 1) := by decide +kernel
theorem djdk68m2_19 : decode jdk_68_method_2_code 19 = .ok (.putfield 22, 3) := by decide +kernel
theorem djdk68m2_22 : decode jdk_68_method_2_code 22 = .ok (.goto 16, 3) := by decide +kernel
theorem djdk68m2_38 : decode jdk_68_method_2_code 38 = .ok (.return_, 1) := by decide +kernel
theorem pn_java_lang_AbstractStringBuilder : plainName "java/lang/AbstractStringBuilder" = true := by first | (simp [plainName, overriddenIn]; done) | decide +kernel
theorem ef_rm_Ai (m : MethodId) (G1 : Int32) (sb : Addr)  : entryFrame m #[(.ref sb), (.int (16 : Int32))] 2 = mkF m 0 #[.val (.ref sb), .val (.int (16 : Int32))] [] := by  first | (simp [entryFrame, mkF, argsToLocals, Value.category, maxLocals]; done) | rfl
def Q_rm_Ai (Z : State) (G1 : Int32) (sb : Addr) (h0 : Heap) (n0 : Nat) (v : Option Value) (h : Heap) (L : List Loc) : Prop := ∃ (t : Addr) (kt : ClassId), (v = none) ∧ (Fr n0 L) ∧ (Keep h0 h [sb]) ∧ (h0.size ≤ t) ∧ (Fld Z h sb "java/lang/AbstractStringBuilder" "value" "[B" (.ref t)) ∧ (Fld Z h sb "java/lang/AbstractStringBuilder" "coder" "B" (.int (0 : Int32))) ∧ (Fld Z h sb "java/lang/AbstractStringBuilder" "count" "I" (.int (0 : Int32))) ∧ (Arv Z h t kt .byte (16 : Int32) ([] : List Value) (Value.int (0 : Int32)))
set_option maxRecDepth 65536 in
set_option maxHeartbeats 40000000 in
theorem rm_Ai (l : Launch) (Z : State) (a0 : Array Value) (hw : ∀ d ∈ tables_1, d.before a0 Z = true) (ws : List Jvm.Cond) (G1 : Int32) (sb : Addr) (h0 : Heap) (n0 : Nat) (Z0 : n0 ≤ h0.size) (O2 : Sta Z Z.heap "java/lang/String" "COMPACT_STRINGS" "Z" (.int G1)) (P5 : ¬ G1 = 0) (f2 : Exa Z h0 sb "java/lang/StringBuilder") (f3 : Fld Z h0 sb "java/lang/AbstractStringBuilder" "value" "[B" .null) (f4 : Fld Z h0 sb "java/lang/AbstractStringBuilder" "coder" "B" (.int (0 : Int32))) (f5 : Fld Z h0 sb "java/lang/AbstractStringBuilder" "count" "I" (.int (0 : Int32))) (ga : n0 ≤ sb) (Old0 : OldL Z n0 h0) :
    MetFree l (⟨"java/lang/AbstractStringBuilder", "<init>", "(I)V"⟩ : MethodName) (head1 (Jvm.Cond.code (⟨"java/lang/AbstractStringBuilder", "<init>", "(I)V"⟩ : MethodName) jdk_68_method_2_code 2 none :: ws) ({ frames := 1, cells := 1, slots := 16, locals := 12 } : Room)) (fun a U => a = #[(.ref sb), (.int (16 : Int32))] ∧ Z.Warmed39 U.vm ∧ U.heap = h0) (fun _ _ _ _ _ => True) (fun _ U o U' => ∃ v L, o = .returned v ∧ Q_rm_Ai Z G1 sb h0 n0 v U'.heap L ∧ FrameEnd U o U' L ({ frames := 1, cells := 1, slots := 16, locals := 12 } : Room).cells ({ frames := 1, cells := 1, slots := 16, locals := 12 } : Room).slots) := by
 refine MetFree.of_bodySF (plainFor_of_name pn_java_lang_AbstractStringBuilder) hisR ?_
 intro p e s m args below meth c s₁ Bd hml0 hP hK
 obtain ⟨rfl, hZ, hh⟩ := hP
 have hx := Bd.exec
 have hby := Bd.bytes
 have hml : c.maxLocals = 2 := hml0
 have hown : s.vm.findClass "java/lang/AbstractStringBuilder" = some m.cls := findClass_of_methodNamed Bd.named
 have hnm := (name_of_methodNamed Bd.named Bd.method).1
 have X0 : Stand p l e ({ frames := 1, cells := 1, slots := 16, locals := 12 } : Room) s m #[(.ref sb), (.int (16 : Int32))] below meth c s₁ [] 0 0 := Stand.of_body Bd
 have e0 : s₁.heap = h0 := by rw [← hh, Bd.state]; rfl
 have N0 := Fr.nil n0
 have K00 : Keep h0 h0 [sb] := Keep.refl _ _
 show Rch p e below s₁ (entryFrame m #[(.ref sb), (.int (16 : Int32))] 2) (FinP s (Q_rm_Ai Z G1 sb h0 n0) 1 16)
 refine Rch.cast (ef_rm_Ai m G1 sb) ?_
 show Rch p e below s₁ (mkF m 0 #[.val (.ref sb), .val (.int 16)] []) _
 refine w_aloadN (pc' := 1) X0 hx hby djdk68m2_0 rfl rfl rfl ?_
 obtain ⟨T62, X62, e62, st62⟩ := initO X0 hx hZ hown (wi hw 50 rfl) (wi hw 25 rfl) (wi hw 26 rfl) e0 (g := (mkF m 1 #[.val (.ref sb), .val (.int 16)] [(.ref sb)])) rfl (by rw [hml]; rfl) rfl (hb hby djdk68m2_1) (by decide) (W := 0) (by show 2 * 0 + _ ≤ _; exact Nat.le_of_eq rfl) (by decide)
 refine Rch.st (fun _ k => st62 _ k) ?_
 show Rch p e below T62 (mkF m 4 #[.val (.ref sb), .val (.int 16)] []) _
 obtain ⟨T63, X63, e63, st63⟩ := getS X62 hx hZ hown (host := "") (wi hw 51 rfl) Via.refl e62 (O2.ext Old0.2) (g := (mkF m 4 #[.val (.ref sb), .val (.int 16)] [])) rfl (hb hby djdk68m2_4)
 refine Rch.st (fun _ k => st63 _ k) ?_
 show Rch p e below T63 (mkF m 7 #[.val (.ref sb), .val (.int 16)] [(.int G1)]) _
 refine w_ifNo (pc' := 10) X63 hx hby djdk68m2_7 (XT.i0_eq_f (P5)) rfl ?_
 refine w_aloadN (pc' := 11) X63 hx hby djdk68m2_10 rfl rfl rfl ?_
 refine w_iloadN (pc' := 12) X63 hx hby djdk68m2_11 rfl rfl ?_
 obtain ⟨T64, h64, kc64, X64, e64, E64, A64, st64⟩ := newP X63 hx hZ (wi hw 8 rfl) e63 (g := (mkF m 12 #[.val (.ref sb), .val (.int 16)] [(.int 16), (.ref sb)])) rfl (hb hby djdk68m2_12) rfl (by decide) (cap := 16) (by decide) (by decide) (by decide) (by decide)
 obtain ⟨a64, g64⟩ : ∃ z, z = h0.size := ⟨_, rfl⟩
 rw [← g64] at A64 st64
 have ne65 : sb ≠ a64 := by rw [g64]; exact Nat.ne_of_lt f2.lt
 have f68 := f2.ext E64
 have f69 := f3.ext E64
 have f70 := f4.ext E64
 have f71 := f5.ext E64
 have Kp74 : Keep h0 h64 [sb] := K00.ext E64
 have f75 : Arv Z h64 a64 kc64 .byte (16 : Int32) ([] : List Value) (Value.int (0 : Int32)) := Arv.new A64 (by decide)
 refine Rch.st (fun _ k => st64 _ k) ?_
 show Rch p e below T64 (mkF m 14 #[.val (.ref sb), .val (.int 16)] [(.ref a64), (.ref sb)]) _
 obtain ⟨T76, h76, X76, e76, W76, st76⟩ := putF X64 hx hZ hown (host := "") (Or.inl (wi hw 52 rfl)) Via.refl e64 f69 f68 (Or.inl (wi hw 53 rfl)) (wi hw 39 rfl) (ty := (.array .byte)) (by decide) rfl rfl (g := (mkF m 14 #[.val (.ref sb), .val (.int 16)] [(.ref a64), (.ref sb)])) rfl rfl (hb hby djdk68m2_14)
 have N77 := Fr.snoc X76 N0 ga
 have f78 := f68.wr W76
 have f79 := f69.same W76
 have f80 := f70.other W76 (Or.inr (slot_ne (t := .byte) (t' := (.array .byte)) (Or.inl (wi hw 55 rfl)) (Or.inl (wi hw 53 rfl)) (by decide) (by decide) (by decide)))
 have f81 := f71.other W76 (Or.inr (slot_ne (t := .int) (t' := (.array .byte)) (Or.inl (wi hw 80 rfl)) (Or.inl (wi hw 53 rfl)) (by decide) (by decide) (by decide)))
 have f82 := f75.other W76 (Ne.symm ne65)
 have Kp85 : Keep h0 h76 [sb] := Kp74.wr W76 (Or.inl (List.mem_of_getElem? (i := 0) rfl))
 refine Rch.st (fun _ k => st76 _ k) ?_
 show Rch p e below T76 (mkF m 17 #[.val (.ref sb), .val (.int 16)] []) _
 refine w_aloadN (pc' := 18) X76 hx hby djdk68m2_17 rfl rfl rfl ?_
 refine w_iconst (pc' := 19) (v := 0) X76 hx hby djdk68m2_18 rfl rfl ?_
 obtain ⟨T86, h86, X86, e86, W86, st86⟩ := putF X76 hx hZ hown (host := "") (Or.inl (wi hw 54 rfl)) Via.refl e76 f80 f78 (Or.inl (wi hw 55 rfl)) (wi hw 39 rfl) (ty := .byte) (by decide) rfl rfl (g := (mkF m 19 #[.val (.ref sb), .val (.int 16)] [(.int 0), (.ref sb)])) rfl rfl (hb hby djdk68m2_19)
 have N87 := Fr.snoc X86 N77 ga
 have f89 := f79.other W86 (Or.inr (slot_ne (t := (.array .byte)) (t' := .byte) (Or.inl (wi hw 53 rfl)) (Or.inl (wi hw 55 rfl)) (by decide) (by decide) (by decide)))
 have f90 := f80.same W86
 have f91 := f81.other W86 (Or.inr (slot_ne (t := .int) (t' := .byte) (Or.inl (wi hw 80 rfl)) (Or.inl (wi hw 55 rfl)) (by decide) (by decide) (by decide)))
 have f92 := f82.other W86 (Ne.symm ne65)
 have Kp95 : Keep h0 h86 [sb] := Kp85.wr W86 (Or.inl (List.mem_of_getElem? (i := 0) rfl))
 refine Rch.st (fun _ k => st86 _ k) ?_
 show Rch p e below T86 (mkF m 22 #[.val (.ref sb), .val (.int 16)] []) _
 refine w_goto (pc' := 38) X86 hx hby djdk68m2_22 (by decide) ?_
 exact Rch.ret0 X86 hx Bd.returns (hb hby djdk68m2_38) (by rw [e86]; exact ⟨a64, kc64, rfl, N87, Kp95, (Nat.le_trans K00.1 (Nat.le_of_eq g64.symm)), f89, f90, f91, f92⟩) (by decide) (by decide)

theorem djdk67m1_0 : decode jdk_67_method_1_code 0 = .ok (.aload_n 0, 1) := by decide +kernel
theorem djdk67m1_1 : decode jdk_67_method_1_code 1 = .ok (.bipush 16, 2) := by decide +kernel
theorem djdk67m1_3 : decode jdk_67_method_1_code 3 = .ok (.invokespecial 1, 3) := by decide +kernel
theorem djdk67m1_6 : decode jdk_67_method_1_code 6 = .ok (.return_, 1) := by decide +kernel
theorem pn_java_lang_StringBuilder : plainName "java/lang/StringBuilder" = true := by first | (simp [plainName, overriddenIn]; done) | decide +kernel
theorem ef_rm_Bi (m : MethodId) (G1 : Int32) (sb : Addr)  : entryFrame m #[(.ref sb)] 1 = mkF m 0 #[.val (.ref sb)] [] := by  first | (simp [entryFrame, mkF, argsToLocals, Value.category, maxLocals]; done) | rfl
def Q_rm_Bi (Z : State) (G1 : Int32) (sb : Addr) (h0 : Heap) (n0 : Nat) (v : Option Value) (h : Heap) (L : List Loc) : Prop := ∃ (t : Addr) (kt : ClassId), (v = none) ∧ (Fr n0 L) ∧ (Keep h0 h [sb]) ∧ (h0.size ≤ t) ∧ (Fld Z h sb "java/lang/AbstractStringBuilder" "value" "[B" (.ref t)) ∧ (Fld Z h sb "java/lang/AbstractStringBuilder" "coder" "B" (.int (0 : Int32))) ∧ (Fld Z h sb "java/lang/AbstractStringBuilder" "count" "I" (.int (0 : Int32))) ∧ (Arv Z h t kt .byte (16 : Int32) ([] : List Value) (Value.int (0 : Int32)))
theorem pd__I_V : parseMethodDescriptor "(I)V" = some ⟨[.int], none⟩ := by decide +kernel
set_option maxRecDepth 65536 in
set_option maxHeartbeats 40000000 in
theorem rm_Bi (l : Launch) (Z : State) (a0 : Array Value) (hw : ∀ d ∈ tables_1, d.before a0 Z = true) (ws : List Jvm.Cond) (G1 : Int32) (sb : Addr) (h0 : Heap) (n0 : Nat) (Z0 : n0 ≤ h0.size) (O2 : Sta Z Z.heap "java/lang/String" "COMPACT_STRINGS" "Z" (.int G1)) (P5 : ¬ G1 = 0) (f2 : Exa Z h0 sb "java/lang/StringBuilder") (f3 : Fld Z h0 sb "java/lang/AbstractStringBuilder" "value" "[B" .null) (f4 : Fld Z h0 sb "java/lang/AbstractStringBuilder" "coder" "B" (.int (0 : Int32))) (f5 : Fld Z h0 sb "java/lang/AbstractStringBuilder" "count" "I" (.int (0 : Int32))) (ga : n0 ≤ sb) (Old0 : OldL Z n0 h0) :
    MetFree l (⟨"java/lang/StringBuilder", "<init>", "()V"⟩ : MethodName) (head1 (Jvm.Cond.code (⟨"java/lang/StringBuilder", "<init>", "()V"⟩ : MethodName) jdk_67_method_1_code 1 none :: ws) ({ frames := 2, cells := 1, slots := 16, locals := 25 } : Room)) (fun a U => a = #[(.ref sb)] ∧ Z.Warmed39 U.vm ∧ U.heap = h0) (fun _ _ _ _ _ => True) (fun _ U o U' => ∃ v L, o = .returned v ∧ Q_rm_Bi Z G1 sb h0 n0 v U'.heap L ∧ FrameEnd U o U' L ({ frames := 2, cells := 1, slots := 16, locals := 25 } : Room).cells ({ frames := 2, cells := 1, slots := 16, locals := 25 } : Room).slots) := by
 refine MetFree.of_bodySF (plainFor_of_name pn_java_lang_StringBuilder) hisR ?_
 intro p e s m args below meth c s₁ Bd hml0 hP hK
 obtain ⟨rfl, hZ, hh⟩ := hP
 have hx := Bd.exec
 have hby := Bd.bytes
 have hml : c.maxLocals = 1 := hml0
 have hown : s.vm.findClass "java/lang/StringBuilder" = some m.cls := findClass_of_methodNamed Bd.named
 have hnm := (name_of_methodNamed Bd.named Bd.method).1
 have X0 : Stand p l e ({ frames := 2, cells := 1, slots := 16, locals := 25 } : Room) s m #[(.ref sb)] below meth c s₁ [] 0 0 := Stand.of_body Bd
 have e0 : s₁.heap = h0 := by rw [← hh, Bd.state]; rfl
 have N0 := Fr.nil n0
 have K00 : Keep h0 h0 [sb] := Keep.refl _ _
 show Rch p e below s₁ (entryFrame m #[(.ref sb)] 1) (FinP s (Q_rm_Bi Z G1 sb h0 n0) 1 16)
 refine Rch.cast (ef_rm_Bi m G1 sb) ?_
 show Rch p e below s₁ (mkF m 0 #[.val (.ref sb)] []) _
 refine w_aloadN (pc' := 1) X0 hx hby djdk67m1_0 rfl rfl rfl ?_
 refine w_bipush (pc' := 3) (v := 16) X0 hx hby djdk67m1_1 rfl rfl ?_
 obtain ⟨_, _, ⟨T96, L96, k96, n96⟩, -, X96, ⟨Lc96, hQ96, l96, y96, z96⟩, st96⟩ := X0.specialBack hx (y := (⟨"java/lang/AbstractStringBuilder", "<init>", "(I)V"⟩ : MethodName)) rfl hown (mvT hZ (wi hw 44 rfl)) (mvT hZ (wi hw 45 rfl)) (mvT hZ (wi hw 49 rfl)) (by decide) (backOf (W := 0) (rm_Ai l Z a0 hw [] G1 sb h0 n0 Z0 (O2) (P5) f2 f3 f4 f5 (ga) Old0) hZ (wi hw 49 rfl) (wi hw 48 rfl) (by decide) (by decide)) (g := (mkF m 3 #[.val (.ref sb)] [(.int 16), (.ref sb)])) rfl (by rw [hml]; rfl) (Steps.refl _) (a := sb) (argsL := [(.int 16)]) (rest := []) (lenOf pd__I_V rfl) rfl (by show 2 * 0 + _ ≤ _; exact Nat.le_of_eq rfl) (hb hby djdk67m1_3) (fun _ _ => ⟨rfl, e0, (by decide : 0 + 1 ≤ _), (by decide : 0 + 16 ≤ _)⟩)
 dsimp only [Pt.U, Pt.locs, Pt.cells, Pt.slots] at X96 l96 y96 z96 st96 hQ96
 subst l96 y96 z96
 obtain ⟨t_96, kt_96, rfl, NQ96, K96, pq96_0, fq96_0, fq96_1, fq96_2, fq96_3⟩ := hQ96
 have N97 := Fr.app N0 NQ96
 have Kp102 : Keep h0 T96.heap [sb] := K00.trans K96 (allS (Or.inl (List.mem_of_getElem? (i := 0) rfl)) all0)
 refine Rch.st (fun _ k => st96.trans k) ?_
 show Rch p e below T96 (mkF m 6 #[.val (.ref sb)] []) _
 exact Rch.ret0 X96 hx Bd.returns (hb hby djdk67m1_6) (by rw [(rfl : T96.heap = T96.heap)]; exact ⟨t_96, kt_96, rfl, N97, Kp102, (Nat.le_trans K00.1 pq96_0), fq96_0, fq96_1, fq96_2, fq96_3⟩) (by decide) (by decide)

theorem djdk68m9_0 : decode jdk_68_method_9_code 0 = .ok (.aload_n 0, 1) := by decide +kernel
theorem djdk68m9_1 : decode jdk_68_method_9_code 1 = .ok (.getfield 15, 3) := by decide +kernel
theorem djdk68m9_4 : decode jdk_68_method_9_code 4 = .ok (.arraylength, 1) := by decide +kernel
theorem djdk68m9_5 : decode jdk_68_method_9_code 5 = .ok (.aload_n 0, 1) := by decide +kernel
theorem djdk68m9_6 : decode jdk_68_method_9_code 6 = .ok (.getfield 22, 3) := by decide +kernel
theorem djdk68m9_9 : decode jdk_68_method_9_code 9 = .ok (.ishr, 1) := by decide +kernel
theorem djdk68m9_10 : decode jdk_68_method_9_code 10 = .ok (.istore_n 2, 1) := by decide +kernel
theorem djdk68m9_11 : decode jdk_68_method_9_code 11 = .ok (.iload_n 1, 1) := by decide +kernel
theorem djdk68m9_12 : decode jdk_68_method_9_code 12 = .ok (.iload_n 2, 1) := by decide +kernel
theorem djdk68m9_13 : decode jdk_68_method_9_code 13 = .ok (.isub, 1) := by decide +kernel
theorem djdk68m9_14 : decode jdk_68_method_9_code 14 = .ok (.ifCond .le 24, 3) := by decide +kernel
theorem djdk68m9_38 : decode jdk_68_method_9_code 38 = .ok (.return_, 1) := by decide +kernel
theorem ef_rm_en (m : MethodId) (sb : Addr) (vb : Addr) (kv : ClassId) (kk : Int32) (pre : List Value) (mm : Int32)  : entryFrame m #[(.ref sb), (.int mm)] 3 = mkF m 0 #[.val (.ref sb), .val (.int mm), .unset] [] := by  first | (simp [entryFrame, mkF, argsToLocals, Value.category, maxLocals]; done) | rfl
def Q_rm_en (Z : State) (sb : Addr) (vb : Addr) (kv : ClassId) (kk : Int32) (pre : List Value) (mm : Int32) (h0 : Heap) (n0 : Nat) (v : Option Value) (h : Heap) (L : List Loc) : Prop := (v = none) ∧ (Fr n0 L) ∧ (h = h0)
set_option maxRecDepth 65536 in
set_option maxHeartbeats 40000000 in
theorem rm_en (l : Launch) (Z : State) (a0 : Array Value) (hw : ∀ d ∈ tables_1, d.before a0 Z = true) (ws : List Jvm.Cond) (sb : Addr) (vb : Addr) (kv : ClassId) (kk : Int32) (pre : List Value) (mm : Int32) (h0 : Heap) (n0 : Nat) (Z0 : n0 ≤ h0.size) (f0 : Exa Z h0 sb "java/lang/StringBuilder") (f1 : Fld Z h0 sb "java/lang/AbstractStringBuilder" "value" "[B" (.ref vb)) (f2 : Fld Z h0 sb "java/lang/AbstractStringBuilder" "coder" "B" (.int (0 : Int32))) (f3 : Fld Z h0 sb "java/lang/AbstractStringBuilder" "count" "I" (.int kk)) (f4 : Arv Z h0 vb kv .byte (16 : Int32) pre (Value.int (0 : Int32))) (hcap : ¬ (0 : Int32) < (mm - (16 : Int32))) :
    MetFree l (⟨"java/lang/AbstractStringBuilder", "ensureCapacityInternal", "(I)V"⟩ : MethodName) (head1 (Jvm.Cond.code (⟨"java/lang/AbstractStringBuilder", "ensureCapacityInternal", "(I)V"⟩ : MethodName) jdk_68_method_9_code 3 none :: ws) ({ frames := 0, cells := 0, slots := 0, locals := 0 } : Room)) (fun a U => a = #[(.ref sb), (.int mm)] ∧ Z.Warmed39 U.vm ∧ U.heap = h0) (fun _ _ _ _ _ => True) (fun _ U o U' => ∃ v L, o = .returned v ∧ Q_rm_en Z sb vb kv kk pre mm h0 n0 v U'.heap L ∧ FrameEnd U o U' L ({ frames := 0, cells := 0, slots := 0, locals := 0 } : Room).cells ({ frames := 0, cells := 0, slots := 0, locals := 0 } : Room).slots) := by
 refine MetFree.of_bodySF (plainFor_of_name pn_java_lang_AbstractStringBuilder) hisR ?_
 intro p e s m args below meth c s₁ Bd hml0 hP hK
 obtain ⟨rfl, hZ, hh⟩ := hP
 have hx := Bd.exec
 have hby := Bd.bytes
 have hml : c.maxLocals = 3 := hml0
 have hown : s.vm.findClass "java/lang/AbstractStringBuilder" = some m.cls := findClass_of_methodNamed Bd.named
 have hnm := (name_of_methodNamed Bd.named Bd.method).1
 have X0 : Stand p l e ({ frames := 0, cells := 0, slots := 0, locals := 0 } : Room) s m #[(.ref sb), (.int mm)] below meth c s₁ [] 0 0 := Stand.of_body Bd
 have e0 : s₁.heap = h0 := by rw [← hh, Bd.state]; rfl
 have N0 := Fr.nil n0
 have K00 : Keep h0 h0 [] := Keep.refl _ _
 show Rch p e below s₁ (entryFrame m #[(.ref sb), (.int mm)] 3) (FinP s (Q_rm_en Z sb vb kv kk pre mm h0 n0) 0 0)
 refine Rch.cast (ef_rm_en m sb vb kv kk pre mm) ?_
 show Rch p e below s₁ (mkF m 0 #[.val (.ref sb), .val (.int mm), .unset] []) _
 refine w_aloadN (pc' := 1) X0 hx hby djdk68m9_0 rfl rfl rfl ?_
 obtain ⟨T104, X104, e104, st104⟩ := getF X0 hx hZ hown (host := "") (Or.inl (wi hw 52 rfl)) Via.refl e0 f1 (g := (mkF m 1 #[.val (.ref sb), .val (.int mm), .unset] [(.ref sb)])) rfl rfl (hb hby djdk68m9_1)
 refine Rch.st (fun _ k => st104 _ k) ?_
 show Rch p e below T104 (mkF m 4 #[.val (.ref sb), .val (.int mm), .unset] [(.ref vb)]) _
 refine Rch.st (fun _ k => own_alen X104 hx hZ e104 f4 rfl rfl (hb hby djdk68m9_4) k) ?_
 show Rch p e below T104 (mkF m 5 #[.val (.ref sb), .val (.int mm), .unset] [(.int 16)]) _
 refine w_aloadN (pc' := 6) X104 hx hby djdk68m9_5 rfl rfl rfl ?_
 obtain ⟨T105, X105, e105, st105⟩ := getF X104 hx hZ hown (host := "") (Or.inl (wi hw 54 rfl)) Via.refl e104 f2 (g := (mkF m 6 #[.val (.ref sb), .val (.int mm), .unset] [(.ref sb), (.int 16)])) rfl rfl (hb hby djdk68m9_6)
 refine Rch.st (fun _ k => st105 _ k) ?_
 show Rch p e below T105 (mkF m 9 #[.val (.ref sb), .val (.int mm), .unset] [(.int 0), (.int 16)]) _
 refine w_ishr (pc' := 10) X105 hx hby djdk68m9_9 rfl ?_
 have r106 : ((16 : Int32) >>> ((0 : Int32) &&& 31)) = (16 : Int32) := by decide
 rw [r106]
 show Rch p e below T105 (mkF m 10 #[.val (.ref sb), .val (.int mm), .unset] [(.int 16)]) _
 refine w_istoreN (pc' := 11) (l' := #[.val (.ref sb), .val (.int mm), .val (.int 16)]) X105 hx hby djdk68m9_10 rfl rfl ?_
 refine w_iloadN (pc' := 12) X105 hx hby djdk68m9_11 rfl rfl ?_
 refine w_iloadN (pc' := 13) X105 hx hby djdk68m9_12 rfl rfl ?_
 refine w_isub (pc' := 14) X105 hx hby djdk68m9_13 rfl ?_
 refine w_ifYes (pc' := 38) X105 hx hby djdk68m9_14 (XT.i0_le_t (hcap)) (by decide) ?_
 exact Rch.ret0 X105 hx Bd.returns (hb hby djdk68m9_38) (by rw [e105]; exact ⟨rfl, N0, rfl⟩) (by decide) (by decide)

theorem djdk68m71_0 : decode jdk_68_method_71_code 0 = .ok (.getstatic 18, 3) := by decide +kernel
theorem djdk68m71_3 : decode jdk_68_method_71_code 3 = .ok (.ifCond .eq 18, 3) := by decide +kernel
theorem djdk68m71_6 : decode jdk_68_method_71_code 6 = .ok (.aload_n 0, 1) := by decide +kernel
theorem djdk68m71_7 : decode jdk_68_method_71_code 7 = .ok (.getfield 22, 3) := by decide +kernel
theorem djdk68m71_10 : decode jdk_68_method_71_code 10 = .ok (.aload_n 1, 1) := by decide +kernel
theorem djdk68m71_11 : decode jdk_68_method_71_code 11 = .ok (.invokevirtual 40, 3) := by decide +kernel
theorem djdk68m71_14 : decode jdk_68_method_71_code 14 = .ok (.if_icmp .eq 7, 3) := by decide +kernel
theorem djdk68m71_21 : decode jdk_68_method_71_code 21 = .ok (.return_, 1) := by decide +kernel
theorem ef_rm_inf (m : MethodId) (G1 : Int32) (sb : Addr) (vb : Addr) (kv : ClassId) (kk : Int32) (pre : List Value) (sa : Addr) (bb : Addr) (kb : ClassId) (nn : Int32) (vs : List Value) (dd : Value)  : entryFrame m #[(.ref sb), (.ref sa)] 2 = mkF m 0 #[.val (.ref sb), .val (.ref sa)] [] := by  first | (simp [entryFrame, mkF, argsToLocals, Value.category, maxLocals]; done) | rfl
def Q_rm_inf (Z : State) (G1 : Int32) (sb : Addr) (vb : Addr) (kv : ClassId) (kk : Int32) (pre : List Value) (sa : Addr) (bb : Addr) (kb : ClassId) (nn : Int32) (vs : List Value) (dd : Value) (h0 : Heap) (n0 : Nat) (v : Option Value) (h : Heap) (L : List Loc) : Prop := (v = none) ∧ (Fr n0 L) ∧ (h = h0)
set_option maxRecDepth 65536 in
set_option maxHeartbeats 40000000 in
theorem rm_inf (l : Launch) (Z : State) (a0 : Array Value) (hw : ∀ d ∈ tables_1, d.before a0 Z = true) (ws : List Jvm.Cond) (G1 : Int32) (sb : Addr) (vb : Addr) (kv : ClassId) (kk : Int32) (pre : List Value) (sa : Addr) (bb : Addr) (kb : ClassId) (nn : Int32) (vs : List Value) (dd : Value) (h0 : Heap) (n0 : Nat) (Z0 : n0 ≤ h0.size) (O2 : Sta Z Z.heap "java/lang/String" "COMPACT_STRINGS" "Z" (.int G1)) (P5 : ¬ G1 = 0) (f2 : Exa Z h0 sb "java/lang/StringBuilder") (f3 : Fld Z h0 sb "java/lang/AbstractStringBuilder" "value" "[B" (.ref vb)) (f4 : Fld Z h0 sb "java/lang/AbstractStringBuilder" "coder" "B" (.int (0 : Int32))) (f5 : Fld Z h0 sb "java/lang/AbstractStringBuilder" "count" "I" (.int kk)) (f6 : Arv Z h0 vb kv .byte (16 : Int32) pre (Value.int (0 : Int32))) (f7 : Exa Z h0 sa "java/lang/String") (f8 : Fld Z h0 sa "java/lang/String" "coder" "B" (.int (0 : Int32))) (f9 : Fld Z h0 sa "java/lang/String" "value" "[B" (.ref bb)) (f10 : Arv Z h0 bb kb .byte nn vs dd) (Old0 : OldL Z n0 h0) :
    MetFree l (⟨"java/lang/AbstractStringBuilder", "inflateIfNeededFor", "(Ljava/lang/String;)V"⟩ : MethodName) (head1 (Jvm.Cond.code (⟨"java/lang/AbstractStringBuilder", "inflateIfNeededFor", "(Ljava/lang/String;)V"⟩ : MethodName) jdk_68_method_71_code 2 none :: ws) ({ frames := 1, cells := 0, slots := 0, locals := 13 } : Room)) (fun a U => a = #[(.ref sb), (.ref sa)] ∧ Z.Warmed39 U.vm ∧ U.heap = h0) (fun _ _ _ _ _ => True) (fun _ U o U' => ∃ v L, o = .returned v ∧ Q_rm_inf Z G1 sb vb kv kk pre sa bb kb nn vs dd h0 n0 v U'.heap L ∧ FrameEnd U o U' L ({ frames := 1, cells := 0, slots := 0, locals := 13 } : Room).cells ({ frames := 1, cells := 0, slots := 0, locals := 13 } : Room).slots) := by
 refine MetFree.of_bodySF (plainFor_of_name pn_java_lang_AbstractStringBuilder) hisR ?_
 intro p e s m args below meth c s₁ Bd hml0 hP hK
 obtain ⟨rfl, hZ, hh⟩ := hP
 have hx := Bd.exec
 have hby := Bd.bytes
 have hml : c.maxLocals = 2 := hml0
 have hown : s.vm.findClass "java/lang/AbstractStringBuilder" = some m.cls := findClass_of_methodNamed Bd.named
 have hnm := (name_of_methodNamed Bd.named Bd.method).1
 have X0 : Stand p l e ({ frames := 1, cells := 0, slots := 0, locals := 13 } : Room) s m #[(.ref sb), (.ref sa)] below meth c s₁ [] 0 0 := Stand.of_body Bd
 have e0 : s₁.heap = h0 := by rw [← hh, Bd.state]; rfl
 have N0 := Fr.nil n0
 have K00 : Keep h0 h0 [] := Keep.refl _ _
 show Rch p e below s₁ (entryFrame m #[(.ref sb), (.ref sa)] 2) (FinP s (Q_rm_inf Z G1 sb vb kv kk pre sa bb kb nn vs dd h0 n0) 0 0)
 refine Rch.cast (ef_rm_inf m G1 sb vb kv kk pre sa bb kb nn vs dd) ?_
 show Rch p e below s₁ (mkF m 0 #[.val (.ref sb), .val (.ref sa)] []) _
 obtain ⟨T107, X107, e107, st107⟩ := getS X0 hx hZ hown (host := "") (wi hw 51 rfl) Via.refl e0 (O2.ext Old0.2) (g := (mkF m 0 #[.val (.ref sb), .val (.ref sa)] [])) rfl (hb hby djdk68m71_0)
 refine Rch.st (fun _ k => st107 _ k) ?_
 show Rch p e below T107 (mkF m 3 #[.val (.ref sb), .val (.ref sa)] [(.int G1)]) _
 refine w_ifNo (pc' := 6) X107 hx hby djdk68m71_3 (XT.i0_eq_f (P5)) rfl ?_
 refine w_aloadN (pc' := 7) X107 hx hby djdk68m71_6 rfl rfl rfl ?_
 obtain ⟨T108, X108, e108, st108⟩ := getF X107 hx hZ hown (host := "") (Or.inl (wi hw 54 rfl)) Via.refl e107 f4 (g := (mkF m 7 #[.val (.ref sb), .val (.ref sa)] [(.ref sb)])) rfl rfl (hb hby djdk68m71_7)
 refine Rch.st (fun _ k => st108 _ k) ?_
 show Rch p e below T108 (mkF m 10 #[.val (.ref sb), .val (.ref sa)] [(.int 0)]) _
 refine w_aloadN (pc' := 11) X108 hx hby djdk68m71_10 rfl rfl rfl ?_
 obtain ⟨cq109, kq109, q109a, q109b, q109c⟩ := isOf hZ e108 f7
 obtain ⟨_, _, ⟨T109, L109, k109, n109⟩, -, X109, ⟨Lc109, hQ109, l109, y109, z109⟩, st109⟩ := X108.virtualBack hx (y := (⟨"java/lang/String", "coder", "()B"⟩ : MethodName)) (z := (⟨"java/lang/String", "coder", "()B"⟩ : MethodName)) hown (mvT hZ (wi hw 96 rfl)) (mvT hZ (wi hw 73 rfl)) (notFace_of_selects (args := #[]) (mvT hZ (wi hw 75 rfl))) (mvT hZ (wi hw 75 rfl)) (mvT hZ (wi hw 74 rfl)) (by decide) (backOf (W := 1) (rm_coder l Z a0 hw [] G1 sa 0 h0 n0 Z0 (O2) (P5) f8 (Or.inl rfl) Old0) hZ (wi hw 76 rfl) (wi hw 6 rfl) (by decide) (by decide)) q109a q109c (g := (mkF m 11 #[.val (.ref sb), .val (.ref sa)] [(.ref sa), (.int 0)])) rfl (by rw [hml]; rfl) (Steps.refl _) (argsL := []) (rest := [(.int 0)]) (lenOf pd___B rfl) rfl (by show 2 * 0 + _ ≤ _; exact Nat.le_of_eq rfl) (hb hby djdk68m71_11) (fun _ _ => ⟨rfl, e108, (by decide : 0 + 0 ≤ _), (by decide : 0 + 0 ≤ _)⟩)
 dsimp only [Pt.U, Pt.locs, Pt.cells, Pt.slots] at X109 l109 y109 z109 st109 hQ109
 subst l109 y109 z109
 obtain ⟨rfl, NQ109, K109⟩ := hQ109
 have N110 := Fr.app N0 NQ109
 refine Rch.st (fun _ k => st109.trans k) ?_
 show Rch p e below T109 (mkF m 14 #[.val (.ref sb), .val (.ref sa)] [(.int 0), (.int 0)]) _
 refine w_icmpYes (pc' := 21) X109 hx hby djdk68m71_14 (XT.ii_eq_t (rfl)) (by decide) ?_
 exact Rch.ret0 X109 hx Bd.returns (hb hby djdk68m71_21) (by rw [K109]; exact ⟨rfl, N110, rfl⟩) (by decide) (by decide)

theorem djdk42m147_0 : decode jdk_42_method_147_code 0 = .ok (.aload_n 0, 1) := by decide +kernel
theorem djdk42m147_1 : decode jdk_42_method_147_code 1 = .ok (.invokevirtual 335, 3) := by decide +kernel
theorem djdk42m147_4 : decode jdk_42_method_147_code 4 = .ok (.iload_n 3, 1) := by decide +kernel
theorem djdk42m147_5 : decode jdk_42_method_147_code 5 = .ok (.if_icmp .ne 23, 3) := by decide +kernel
theorem djdk42m147_8 : decode jdk_42_method_147_code 8 = .ok (.aload_n 0, 1) := by decide +kernel
theorem djdk42m147_9 : decode jdk_42_method_147_code 9 = .ok (.getfield 9, 3) := by decide +kernel
theorem djdk42m147_12 : decode jdk_42_method_147_code 12 = .ok (.iconst 0, 1) := by decide +kernel
theorem djdk42m147_13 : decode jdk_42_method_147_code 13 = .ok (.aload_n 1, 1) := by decide +kernel
theorem djdk42m147_14 : decode jdk_42_method_147_code 14 = .ok (.iload_n 2, 1) := by decide +kernel
theorem djdk42m147_15 : decode jdk_42_method_147_code 15 = .ok (.iload_n 3, 1) := by decide +kernel
theorem djdk42m147_16 : decode jdk_42_method_147_code 16 = .ok (.ishl, 1) := by decide +kernel
theorem djdk42m147_17 : decode jdk_42_method_147_code 17 = .ok (.aload_n 0, 1) := by decide +kernel
theorem djdk42m147_18 : decode jdk_42_method_147_code 18 = .ok (.getfield 9, 3) := by decide +kernel
theorem djdk42m147_21 : decode jdk_42_method_147_code 21 = .ok (.arraylength, 1) := by decide +kernel
theorem djdk42m147_22 : decode jdk_42_method_147_code 22 = .ok (.invokestatic 212, 3) := by decide +kernel
theorem djdk42m147_25 : decode jdk_42_method_147_code 25 = .ok (.goto 18, 3) := by decide +kernel
theorem djdk42m147_43 : decode jdk_42_method_147_code 43 = .ok (.return_, 1) := by decide +kernel
theorem ef_rm_gb (m : MethodId) (G1 : Int32) (vb : Addr) (kv : ClassId) (kk : Int32) (pre : List Value) (sa : Addr) (bb : Addr) (kb : ClassId) (nn : Int32) (vs : List Value) (dd : Value)  : entryFrame m #[(.ref sa), (.ref vb), (.int kk), (.int (0 : Int32))] 4 = mkF m 0 #[.val (.ref sa), .val (.ref vb), .val (.int kk), .val (.int (0 : Int32))] [] := by  first | (simp [entryFrame, mkF, argsToLocals, Value.category, maxLocals]; done) | rfl
def Q_rm_gb (Z : State) (G1 : Int32) (vb : Addr) (kv : ClassId) (kk : Int32) (pre : List Value) (sa : Addr) (bb : Addr) (kb : ClassId) (nn : Int32) (vs : List Value) (dd : Value) (h0 : Heap) (n0 : Nat) (v : Option Value) (h : Heap) (L : List Loc) : Prop := (v = none) ∧ (Fr n0 L) ∧ (Keep h0 h [vb]) ∧ (Arv Z h vb kv .byte (16 : Int32) (pre ++ own_take vs dd nn.toNatClampNeg) (Value.int (0 : Int32)))
set_option maxRecDepth 65536 in
set_option maxHeartbeats 40000000 in
theorem rm_gb (l : Launch) (Z : State) (a0 : Array Value) (hw : ∀ d ∈ tables_1, d.before a0 Z = true) (ws : List Jvm.Cond) (G1 : Int32) (vb : Addr) (kv : ClassId) (kk : Int32) (pre : List Value) (sa : Addr) (bb : Addr) (kb : ClassId) (nn : Int32) (vs : List Value) (dd : Value) (h0 : Heap) (n0 : Nat) (Z0 : n0 ≤ h0.size) (O2 : Sta Z Z.heap "java/lang/String" "COMPACT_STRINGS" "Z" (.int G1)) (P5 : ¬ G1 = 0) (f2 : Arv Z h0 vb kv .byte (16 : Int32) pre (Value.int (0 : Int32))) (f3 : Exa Z h0 sa "java/lang/String") (f4 : Fld Z h0 sa "java/lang/String" "coder" "B" (.int (0 : Int32))) (f5 : Fld Z h0 sa "java/lang/String" "value" "[B" (.ref bb)) (f6 : Arv Z h0 bb kb .byte nn vs dd) (hk0 : ¬ kk < 0) (hn0 : ¬ nn < 0) (hkl : kk.toNatClampNeg = pre.length) (h16 : pre.length + nn.toNatClampNeg ≤ 16) (gb : n0 ≤ vb) (q1 : bb ≠ vb) (q5 : sa ≠ vb) (Old0 : OldL Z n0 h0) :
    MetFree l (⟨"java/lang/String", "getBytes", "([BIB)V"⟩ : MethodName) (head1 (Jvm.Cond.code (⟨"java/lang/String", "getBytes", "([BIB)V"⟩ : MethodName) jdk_42_method_147_code 4 none :: ws) ({ frames := 1, cells := 0, slots := 0, locals := 18 } : Room)) (fun a U => a = #[(.ref sa), (.ref vb), (.int kk), (.int (0 : Int32))] ∧ Z.Warmed39 U.vm ∧ U.heap = h0) (fun _ _ _ _ _ => True) (fun _ U o U' => ∃ v L, o = .returned v ∧ Q_rm_gb Z G1 vb kv kk pre sa bb kb nn vs dd h0 n0 v U'.heap L ∧ FrameEnd U o U' L ({ frames := 1, cells := 0, slots := 0, locals := 18 } : Room).cells ({ frames := 1, cells := 0, slots := 0, locals := 18 } : Room).slots) := by
 refine MetFree.of_bodySF (plainFor_of_name pn_java_lang_String) hisR ?_
 intro p e s m args below meth c s₁ Bd hml0 hP hK
 obtain ⟨rfl, hZ, hh⟩ := hP
 have hx := Bd.exec
 have hby := Bd.bytes
 have hml : c.maxLocals = 4 := hml0
 have hown : s.vm.findClass "java/lang/String" = some m.cls := findClass_of_methodNamed Bd.named
 have hnm := (name_of_methodNamed Bd.named Bd.method).1
 have X0 : Stand p l e ({ frames := 1, cells := 0, slots := 0, locals := 18 } : Room) s m #[(.ref sa), (.ref vb), (.int kk), (.int (0 : Int32))] below meth c s₁ [] 0 0 := Stand.of_body Bd
 have e0 : s₁.heap = h0 := by rw [← hh, Bd.state]; rfl
 have N0 := Fr.nil n0
 have K00 : Keep h0 h0 [vb] := Keep.refl _ _
 show Rch p e below s₁ (entryFrame m #[(.ref sa), (.ref vb), (.int kk), (.int (0 : Int32))] 4) (FinP s (Q_rm_gb Z G1 vb kv kk pre sa bb kb nn vs dd h0 n0) 0 0)
 refine Rch.cast (ef_rm_gb m G1 vb kv kk pre sa bb kb nn vs dd) ?_
 show Rch p e below s₁ (mkF m 0 #[.val (.ref sa), .val (.ref vb), .val (.int kk), .val (.int 0)] []) _
 refine w_aloadN (pc' := 1) X0 hx hby djdk42m147_0 rfl rfl rfl ?_
 obtain ⟨cq111, kq111, q111a, q111b, q111c⟩ := isOf hZ e0 f3
 obtain ⟨_, _, ⟨T111, L111, k111, n111⟩, -, X111, ⟨Lc111, hQ111, l111, y111, z111⟩, st111⟩ := X0.virtualBack hx (y := (⟨"java/lang/String", "coder", "()B"⟩ : MethodName)) (z := (⟨"java/lang/String", "coder", "()B"⟩ : MethodName)) hown (mvT hZ (wi hw 72 rfl)) (mvT hZ (wi hw 73 rfl)) (notFace_of_selects (args := #[]) (mvT hZ (wi hw 75 rfl))) (mvT hZ (wi hw 75 rfl)) (mvT hZ (wi hw 74 rfl)) (by decide) (backOf (W := 0) (rm_coder l Z a0 hw [] G1 sa 0 h0 n0 Z0 (O2) (P5) f4 (Or.inl rfl) Old0) hZ (wi hw 76 rfl) (wi hw 6 rfl) (by decide) (by decide)) q111a q111c (g := (mkF m 1 #[.val (.ref sa), .val (.ref vb), .val (.int kk), .val (.int 0)] [(.ref sa)])) rfl (by rw [hml]; rfl) (Steps.refl _) (argsL := []) (rest := []) (lenOf pd___B rfl) rfl (by show 2 * 0 + _ ≤ _; exact Nat.le_of_eq rfl) (hb hby djdk42m147_1) (fun _ _ => ⟨rfl, e0, (by decide : 0 + 0 ≤ _), (by decide : 0 + 0 ≤ _)⟩)
 dsimp only [Pt.U, Pt.locs, Pt.cells, Pt.slots] at X111 l111 y111 z111 st111 hQ111
 subst l111 y111 z111
 obtain ⟨rfl, NQ111, K111⟩ := hQ111
 have N112 := Fr.app N0 NQ111
 refine Rch.st (fun _ k => st111.trans k) ?_
 show Rch p e below T111 (mkF m 4 #[.val (.ref sa), .val (.ref vb), .val (.int kk), .val (.int 0)] [(.int 0)]) _
 refine w_iloadN (pc' := 5) X111 hx hby djdk42m147_4 rfl rfl ?_
 refine w_icmpNo (pc' := 8) X111 hx hby djdk42m147_5 (XT.ii_ne_f (rfl)) rfl ?_
 refine w_aloadN (pc' := 9) X111 hx hby djdk42m147_8 rfl rfl rfl ?_
 obtain ⟨T113, X113, e113, st113⟩ := getF X111 hx hZ hown (host := "") (Or.inl (wi hw 71 rfl)) Via.refl K111 f5 (g := (mkF m 9 #[.val (.ref sa), .val (.ref vb), .val (.int kk), .val (.int 0)] [(.ref sa)])) rfl rfl (hb hby djdk42m147_9)
 refine Rch.st (fun _ k => st113 _ k) ?_
 show Rch p e below T113 (mkF m 12 #[.val (.ref sa), .val (.ref vb), .val (.int kk), .val (.int 0)] [(.ref bb)]) _
 refine w_iconst (pc' := 13) (v := 0) X113 hx hby djdk42m147_12 rfl rfl ?_
 refine w_aloadN (pc' := 14) X113 hx hby djdk42m147_13 rfl rfl rfl ?_
 refine w_iloadN (pc' := 15) X113 hx hby djdk42m147_14 rfl rfl ?_
 refine w_iloadN (pc' := 16) X113 hx hby djdk42m147_15 rfl rfl ?_
 refine w_ishl (pc' := 17) X113 hx hby djdk42m147_16 rfl ?_
 have r114 : (kk <<< ((0 : Int32) &&& 31)) = kk := own_sl0 kk
 rw [r114]
 show Rch p e below T113 (mkF m 17 #[.val (.ref sa), .val (.ref vb), .val (.int kk), .val (.int 0)] [(.int kk), (.ref vb), (.int 0), (.ref bb)]) _
 refine w_aloadN (pc' := 18) X113 hx hby djdk42m147_17 rfl rfl rfl ?_
 obtain ⟨T115, X115, e115, st115⟩ := getF X113 hx hZ hown (host := "") (Or.inl (wi hw 71 rfl)) Via.refl e113 f5 (g := (mkF m 18 #[.val (.ref sa), .val (.ref vb), .val (.int kk), .val (.int 0)] [(.ref sa), (.int kk), (.ref vb), (.int 0), (.ref bb)])) rfl rfl (hb hby djdk42m147_18)
 refine Rch.st (fun _ k => st115 _ k) ?_
 show Rch p e below T115 (mkF m 21 #[.val (.ref sa), .val (.ref vb), .val (.int kk), .val (.int 0)] [(.ref bb), (.int kk), (.ref vb), (.int 0), (.ref bb)]) _
 refine Rch.st (fun _ k => own_alen X115 hx hZ e115 f6 rfl rfl (hb hby djdk42m147_21) k) ?_
 show Rch p e below T115 (mkF m 22 #[.val (.ref sa), .val (.ref vb), .val (.int kk), .val (.int 0)] [(.int nn), (.int kk), (.ref vb), (.int 0), (.ref bb)]) _
 have f116 : Arv Z h0 vb kv .byte (16 : Int32) (pre ++ List.replicate nn.toNatClampNeg (Value.int (0 : Int32))) (Value.int (0 : Int32)) := f2.pad (pad_rep pre (Value.int (0 : Int32)) nn.toNatClampNeg)
 obtain ⟨T117, h117, L117, X117, e117, N117, K117, V117, st117⟩ := cpA (us := (own_take vs dd nn.toNatClampNeg)) X115 hx hZ hown (wi hw 102 rfl) (wi hw 105 rfl) (wi hw 103 rfl) (wi hw 104 rfl) e115 f6 f116 (Or.inl ⟨rfl, rfl⟩) (by decide) (hk0) (hn0) (by rw [own_z0, Nat.zero_add]; exact Nat.le_refl _) (by rw [own_16, hkl]; exact h16) (own_take_hus _ _ _) (by rw [hkl]; simp) N112 gb (g := (mkF m 22 #[.val (.ref sa), .val (.ref vb), .val (.int kk), .val (.int 0)] [(.int nn), (.int kk), (.ref vb), (.int 0), (.ref bb)])) rfl (by rw [hml]; rfl) rfl (hb hby djdk42m147_22) (by decide) (W := 0) (by show 2 * 0 + _ ≤ _; exact Nat.le_of_eq rfl) (by decide)
 have Kp124 : Keep h0 h117 [vb] := K00.trans K117 (allS (Or.inl (List.mem_of_getElem? (i := 0) rfl)) all0)
 have f125 : Arv Z h117 vb kv .byte (16 : Int32) (pre ++ own_take vs dd nn.toNatClampNeg) (Value.int (0 : Int32)) := by have z := V117; rw [show (pre ++ List.replicate nn.toNatClampNeg (Value.int (0 : Int32))).take kk.toNatClampNeg ++ (own_take vs dd nn.toNatClampNeg) ++ (pre ++ List.replicate nn.toNatClampNeg (Value.int (0 : Int32))).drop (kk.toNatClampNeg + nn.toNatClampNeg) = (pre ++ own_take vs dd nn.toNatClampNeg) from by rw [hkl]; simp] at z; exact z
 refine Rch.st (fun _ k => st117 _ k) ?_
 show Rch p e below T117 (mkF m 25 #[.val (.ref sa), .val (.ref vb), .val (.int kk), .val (.int 0)] []) _
 refine w_goto (pc' := 43) X117 hx hby djdk42m147_25 (by decide) ?_
 exact Rch.ret0 X117 hx Bd.returns (hb hby djdk42m147_43) (by rw [e117]; exact ⟨rfl, N117, Kp124, f125⟩) (by decide) (by decide)

theorem djdk68m73_0 : decode jdk_68_method_73_code 0 = .ok (.aload_n 0, 1) := by decide +kernel
theorem djdk68m73_1 : decode jdk_68_method_73_code 1 = .ok (.aload_n 2, 1) := by decide +kernel
theorem djdk68m73_2 : decode jdk_68_method_73_code 2 = .ok (.invokevirtual 397, 3) := by decide +kernel
theorem djdk68m73_5 : decode jdk_68_method_73_code 5 = .ok (.aload_n 2, 1) := by decide +kernel
theorem djdk68m73_6 : decode jdk_68_method_73_code 6 = .ok (.aload_n 0, 1) := by decide +kernel
theorem djdk68m73_7 : decode jdk_68_method_73_code 7 = .ok (.getfield 15, 3) := by decide +kernel
theorem djdk68m73_10 : decode jdk_68_method_73_code 10 = .ok (.iload_n 1, 1) := by decide +kernel
theorem djdk68m73_11 : decode jdk_68_method_73_code 11 = .ok (.aload_n 0, 1) := by decide +kernel
theorem djdk68m73_12 : decode jdk_68_method_73_code 12 = .ok (.getfield 22, 3) := by decide +kernel
theorem djdk68m73_15 : decode jdk_68_method_73_code 15 = .ok (.invokevirtual 399, 3) := by decide +kernel
theorem djdk68m73_18 : decode jdk_68_method_73_code 18 = .ok (.return_, 1) := by decide +kernel
theorem ef_rm_psa (m : MethodId) (G1 : Int32) (sb : Addr) (vb : Addr) (kv : ClassId) (kk : Int32) (pre : List Value) (sa : Addr) (bb : Addr) (kb : ClassId) (nn : Int32) (vs : List Value) (dd : Value)  : entryFrame m #[(.ref sb), (.int kk), (.ref sa)] 3 = mkF m 0 #[.val (.ref sb), .val (.int kk), .val (.ref sa)] [] := by  first | (simp [entryFrame, mkF, argsToLocals, Value.category, maxLocals]; done) | rfl
def Q_rm_psa (Z : State) (G1 : Int32) (sb : Addr) (vb : Addr) (kv : ClassId) (kk : Int32) (pre : List Value) (sa : Addr) (bb : Addr) (kb : ClassId) (nn : Int32) (vs : List Value) (dd : Value) (h0 : Heap) (n0 : Nat) (v : Option Value) (h : Heap) (L : List Loc) : Prop := (v = none) ∧ (Fr n0 L) ∧ (Keep h0 h [vb]) ∧ (Arv Z h vb kv .byte (16 : Int32) (pre ++ own_take vs dd nn.toNatClampNeg) (Value.int (0 : Int32)))
theorem pd__Ljava_lang_String__V : parseMethodDescriptor "(Ljava/lang/String;)V" = some ⟨[(.object "java/lang/String")], none⟩ := by decide +kernel
theorem pd___BIB_V : parseMethodDescriptor "([BIB)V" = some ⟨[(.array .byte), .int, .byte], none⟩ := by decide +kernel
set_option maxRecDepth 65536 in
set_option maxHeartbeats 40000000 in
theorem rm_psa (l : Launch) (Z : State) (a0 : Array Value) (hw : ∀ d ∈ tables_1, d.before a0 Z = true) (ws : List Jvm.Cond) (G1 : Int32) (sb : Addr) (vb : Addr) (kv : ClassId) (kk : Int32) (pre : List Value) (sa : Addr) (bb : Addr) (kb : ClassId) (nn : Int32) (vs : List Value) (dd : Value) (h0 : Heap) (n0 : Nat) (Z0 : n0 ≤ h0.size) (O2 : Sta Z Z.heap "java/lang/String" "COMPACT_STRINGS" "Z" (.int G1)) (P5 : ¬ G1 = 0) (f2 : Exa Z h0 sb "java/lang/StringBuilder") (f3 : Fld Z h0 sb "java/lang/AbstractStringBuilder" "value" "[B" (.ref vb)) (f4 : Fld Z h0 sb "java/lang/AbstractStringBuilder" "coder" "B" (.int (0 : Int32))) (f5 : Fld Z h0 sb "java/lang/AbstractStringBuilder" "count" "I" (.int kk)) (f6 : Arv Z h0 vb kv .byte (16 : Int32) pre (Value.int (0 : Int32))) (f7 : Exa Z h0 sa "java/lang/String") (f8 : Fld Z h0 sa "java/lang/String" "coder" "B" (.int (0 : Int32))) (f9 : Fld Z h0 sa "java/lang/String" "value" "[B" (.ref bb)) (f10 : Arv Z h0 bb kb .byte nn vs dd) (hk0 : ¬ kk < 0) (hn0 : ¬ nn < 0) (hkl : kk.toNatClampNeg = pre.length) (h16 : pre.length + nn.toNatClampNeg ≤ 16) (gb : n0 ≤ vb) (q1 : bb ≠ vb) (q2 : sa ≠ sb) (q3 : bb ≠ sb) (q4 : vb ≠ sb) (q5 : sa ≠ vb) (Old0 : OldL Z n0 h0) :
    MetFree l (⟨"java/lang/AbstractStringBuilder", "putStringAt", "(ILjava/lang/String;)V"⟩ : MethodName) (head1 (Jvm.Cond.code (⟨"java/lang/AbstractStringBuilder", "putStringAt", "(ILjava/lang/String;)V"⟩ : MethodName) jdk_68_method_73_code 3 none :: ws) ({ frames := 2, cells := 0, slots := 0, locals := 33 } : Room)) (fun a U => a = #[(.ref sb), (.int kk), (.ref sa)] ∧ Z.Warmed39 U.vm ∧ U.heap = h0) (fun _ _ _ _ _ => True) (fun _ U o U' => ∃ v L, o = .returned v ∧ Q_rm_psa Z G1 sb vb kv kk pre sa bb kb nn vs dd h0 n0 v U'.heap L ∧ FrameEnd U o U' L ({ frames := 2, cells := 0, slots := 0, locals := 33 } : Room).cells ({ frames := 2, cells := 0, slots := 0, locals := 33 } : Room).slots) := by
 refine MetFree.of_bodySF (plainFor_of_name pn_java_lang_AbstractStringBuilder) hisR ?_
 intro p e s m args below meth c s₁ Bd hml0 hP hK
 obtain ⟨rfl, hZ, hh⟩ := hP
 have hx := Bd.exec
 have hby := Bd.bytes
 have hml : c.maxLocals = 3 := hml0
 have hown : s.vm.findClass "java/lang/AbstractStringBuilder" = some m.cls := findClass_of_methodNamed Bd.named
 have hnm := (name_of_methodNamed Bd.named Bd.method).1
 have X0 : Stand p l e ({ frames := 2, cells := 0, slots := 0, locals := 33 } : Room) s m #[(.ref sb), (.int kk), (.ref sa)] below meth c s₁ [] 0 0 := Stand.of_body Bd
 have e0 : s₁.heap = h0 := by rw [← hh, Bd.state]; rfl
 have N0 := Fr.nil n0
 have K00 : Keep h0 h0 [vb] := Keep.refl _ _
 show Rch p e below s₁ (entryFrame m #[(.ref sb), (.int kk), (.ref sa)] 3) (FinP s (Q_rm_psa Z G1 sb vb kv kk pre sa bb kb nn vs dd h0 n0) 0 0)
 refine Rch.cast (ef_rm_psa m G1 sb vb kv kk pre sa bb kb nn vs dd) ?_
 show Rch p e below s₁ (mkF m 0 #[.val (.ref sb), .val (.int kk), .val (.ref sa)] []) _
 refine w_aloadN (pc' := 1) X0 hx hby djdk68m73_0 rfl rfl rfl ?_
 refine w_aloadN (pc' := 2) X0 hx hby djdk68m73_1 rfl rfl rfl ?_
 obtain ⟨cq126, q126a, q126b⟩ := f2.cell
 obtain ⟨_, _, ⟨T126, L126, k126, n126⟩, -, X126, ⟨Lc126, hQ126, l126, y126, z126⟩, st126⟩ := X0.privateBack hx (y := (⟨"java/lang/AbstractStringBuilder", "inflateIfNeededFor", "(Ljava/lang/String;)V"⟩ : MethodName)) hown (mvT hZ (wi hw 91 rfl)) (mvT hZ (wi hw 92 rfl)) (own_selQ (mvT hZ (wi hw 94 rfl)) (Cond.privateMethod_at (mvP hZ (wi hw 93 rfl) (args := #[]))) (mvT hZ (wi hw 92 rfl)) (by decide)) (Cond.privateMethod_at (mvP hZ (wi hw 93 rfl) (args := #[]))) (mvT hZ (wi hw 95 rfl)) (by decide) (backOf (W := 0) (rm_inf l Z a0 hw [] G1 sb vb kv kk pre sa bb kb nn vs dd h0 n0 Z0 (O2) (P5) f2 f3 f4 f5 f6 f7 f8 f9 f10 Old0) hZ (wi hw 95 rfl) (wi hw 48 rfl) (by decide) (by decide)) (g := (mkF m 2 #[.val (.ref sb), .val (.int kk), .val (.ref sa)] [(.ref sa), (.ref sb)])) rfl (by rw [hml]; rfl) (Steps.refl _) (a := sb) (by rw [e0]; exact q126a) q126b (argsL := [(.ref sa)]) (rest := []) (lenOf pd__Ljava_lang_String__V rfl) rfl (by show 2 * 0 + _ ≤ _; exact Nat.le_of_eq rfl) (hb hby djdk68m73_2) (fun _ _ => ⟨rfl, e0, (by decide : 0 + 0 ≤ _), (by decide : 0 + 0 ≤ _)⟩)
 dsimp only [Pt.U, Pt.locs, Pt.cells, Pt.slots] at X126 l126 y126 z126 st126 hQ126
 subst l126 y126 z126
 obtain ⟨rfl, NQ126, K126⟩ := hQ126
 have N127 := Fr.app N0 NQ126
 refine Rch.st (fun _ k => st126.trans k) ?_
 show Rch p e below T126 (mkF m 5 #[.val (.ref sb), .val (.int kk), .val (.ref sa)] []) _
 refine w_aloadN (pc' := 6) X126 hx hby djdk68m73_5 rfl rfl rfl ?_
 refine w_aloadN (pc' := 7) X126 hx hby djdk68m73_6 rfl rfl rfl ?_
 obtain ⟨T128, X128, e128, st128⟩ := getF X126 hx hZ hown (host := "") (Or.inl (wi hw 52 rfl)) Via.refl K126 f3 (g := (mkF m 7 #[.val (.ref sb), .val (.int kk), .val (.ref sa)] [(.ref sb), (.ref sa)])) rfl rfl (hb hby djdk68m73_7)
 refine Rch.st (fun _ k => st128 _ k) ?_
 show Rch p e below T128 (mkF m 10 #[.val (.ref sb), .val (.int kk), .val (.ref sa)] [(.ref vb), (.ref sa)]) _
 refine w_iloadN (pc' := 11) X128 hx hby djdk68m73_10 rfl rfl ?_
 refine w_aloadN (pc' := 12) X128 hx hby djdk68m73_11 rfl rfl rfl ?_
 obtain ⟨T129, X129, e129, st129⟩ := getF X128 hx hZ hown (host := "") (Or.inl (wi hw 54 rfl)) Via.refl e128 f4 (g := (mkF m 12 #[.val (.ref sb), .val (.int kk), .val (.ref sa)] [(.ref sb), (.int kk), (.ref vb), (.ref sa)])) rfl rfl (hb hby djdk68m73_12)
 refine Rch.st (fun _ k => st129 _ k) ?_
 show Rch p e below T129 (mkF m 15 #[.val (.ref sb), .val (.int kk), .val (.ref sa)] [(.int 0), (.int kk), (.ref vb), (.ref sa)]) _
 obtain ⟨cq130, kq130, q130a, q130b, q130c⟩ := isOf hZ e129 f7
 obtain ⟨_, _, ⟨T130, L130, k130, n130⟩, -, X130, ⟨Lc130, hQ130, l130, y130, z130⟩, st130⟩ := X129.virtualBack hx (y := (⟨"java/lang/String", "getBytes", "([BIB)V"⟩ : MethodName)) (z := (⟨"java/lang/String", "getBytes", "([BIB)V"⟩ : MethodName)) hown (mvT hZ (wi hw 97 rfl)) (mvT hZ (wi hw 98 rfl)) (notFace_of_selects (args := #[]) (mvT hZ (wi hw 100 rfl))) (mvT hZ (wi hw 100 rfl)) (mvT hZ (wi hw 99 rfl)) (by decide) (backOf (W := 0) (rm_gb l Z a0 hw [] G1 vb kv kk pre sa bb kb nn vs dd h0 n0 Z0 (O2) (P5) f6 f7 f8 f9 f10 (hk0) (hn0) (hkl) (h16) (gb) (q1) (q5) Old0) hZ (wi hw 101 rfl) (wi hw 6 rfl) (by decide) (by decide)) q130a q130c (g := (mkF m 15 #[.val (.ref sb), .val (.int kk), .val (.ref sa)] [(.int 0), (.int kk), (.ref vb), (.ref sa)])) rfl (by rw [hml]; rfl) (Steps.refl _) (argsL := [(.ref vb), (.int kk), (.int 0)]) (rest := []) (lenOf pd___BIB_V rfl) rfl (by show 2 * 0 + _ ≤ _; exact Nat.le_of_eq rfl) (hb hby djdk68m73_15) (fun _ _ => ⟨rfl, e129, (by decide : 0 + 0 ≤ _), (by decide : 0 + 0 ≤ _)⟩)
 dsimp only [Pt.U, Pt.locs, Pt.cells, Pt.slots] at X130 l130 y130 z130 st130 hQ130
 subst l130 y130 z130
 obtain ⟨rfl, NQ130, K130, fq130_0⟩ := hQ130
 have N131 := Fr.app N127 NQ130
 have Kp141 : Keep h0 T130.heap [vb] := K00.trans K130 (allS (Or.inl (List.mem_of_getElem? (i := 0) rfl)) all0)
 refine Rch.st (fun _ k => st130.trans k) ?_
 show Rch p e below T130 (mkF m 18 #[.val (.ref sb), .val (.int kk), .val (.ref sa)] []) _
 exact Rch.ret0 X130 hx Bd.returns (hb hby djdk68m73_18) (by rw [(rfl : T130.heap = T130.heap)]; exact ⟨rfl, N131, Kp141, fq130_0⟩) (by decide) (by decide)

theorem djdk68m22_0 : decode jdk_68_method_22_code 0 = .ok (.aload_n 1, 1) := by decide +kernel
theorem djdk68m22_1 : decode jdk_68_method_22_code 1 = .ok (.ifnonnull 8, 3) := by decide +kernel
theorem djdk68m22_9 : decode jdk_68_method_22_code 9 = .ok (.aload_n 1, 1) := by decide +kernel
theorem djdk68m22_10 : decode jdk_68_method_22_code 10 = .ok (.invokevirtual 32, 3) := by decide +kernel
theorem djdk68m22_13 : decode jdk_68_method_22_code 13 = .ok (.istore_n 2, 1) := by decide +kernel
theorem djdk68m22_14 : decode jdk_68_method_22_code 14 = .ok (.aload_n 0, 1) := by decide +kernel
theorem djdk68m22_15 : decode jdk_68_method_22_code 15 = .ok (.aload_n 0, 1) := by decide +kernel
theorem djdk68m22_16 : decode jdk_68_method_22_code 16 = .ok (.getfield 79, 3) := by decide +kernel
theorem djdk68m22_19 : decode jdk_68_method_22_code 19 = .ok (.iload_n 2, 1) := by decide +kernel
theorem djdk68m22_20 : decode jdk_68_method_22_code 20 = .ok (.iadd, 1) := by decide +kernel
theorem djdk68m22_21 : decode jdk_68_method_22_code 21 = .ok (.invokevirtual 100, 3) := by decide +kernel
theorem djdk68m22_24 : decode jdk_68_method_22_code 24 = .ok (.aload_n 0, 1) := by decide +kernel
theorem djdk68m22_25 : decode jdk_68_method_22_code 25 = .ok (.aload_n 0, 1) := by decide +kernel
theorem djdk68m22_26 : decode jdk_68_method_22_code 26 = .ok (.getfield 79, 3) := by decide +kernel
theorem djdk68m22_29 : decode jdk_68_method_22_code 29 = .ok (.aload_n 1, 1) := by decide +kernel
theorem djdk68m22_30 : decode jdk_68_method_22_code 30 = .ok (.invokevirtual 208, 3) := by decide +kernel
theorem djdk68m22_33 : decode jdk_68_method_22_code 33 = .ok (.aload_n 0, 1) := by decide +kernel
theorem djdk68m22_34 : decode jdk_68_method_22_code 34 = .ok (.dup, 1) := by decide +kernel
theorem djdk68m22_35 : decode jdk_68_method_22_code 35 = .ok (.getfield 79, 3) := by decide +kernel
theorem djdk68m22_38 : decode jdk_68_method_22_code 38 = .ok (.iload_n 2, 1) := by decide +kernel
theorem djdk68m22_39 : decode jdk_68_method_22_code 39 = .ok (.iadd, 1) := by decide +kernel
theorem djdk68m22_40 : decode jdk_68_method_22_code 40 = .ok (.putfield 79, 3) := by decide +kernel
theorem djdk68m22_43 : decode jdk_68_method_22_code 43 = .ok (.aload_n 0, 1) := by decide +kernel
theorem djdk68m22_44 : decode jdk_68_method_22_code 44 = .ok (.areturn, 1) := by decide +kernel
theorem ef_rm_Aap (m : MethodId) (G1 : Int32) (sb : Addr) (vb : Addr) (kv : ClassId) (kk : Int32) (pre : List Value) (sa : Addr) (bb : Addr) (kb : ClassId) (nn : Int32) (vs : List Value) (dd : Value)  : entryFrame m #[(.ref sb), (.ref sa)] 3 = mkF m 0 #[.val (.ref sb), .val (.ref sa), .unset] [] := by  first | (simp [entryFrame, mkF, argsToLocals, Value.category, maxLocals]; done) | rfl
def Q_rm_Aap (Z : State) (G1 : Int32) (sb : Addr) (vb : Addr) (kv : ClassId) (kk : Int32) (pre : List Value) (sa : Addr) (bb : Addr) (kb : ClassId) (nn : Int32) (vs : List Value) (dd : Value) (h0 : Heap) (n0 : Nat) (v : Option Value) (h : Heap) (L : List Loc) : Prop := (v = some (.ref sb)) ∧ (Fr n0 L) ∧ (Keep h0 h [sb, vb]) ∧ (Fld Z h sb "java/lang/AbstractStringBuilder" "value" "[B" (.ref vb)) ∧ (Fld Z h sb "java/lang/AbstractStringBuilder" "coder" "B" (.int (0 : Int32))) ∧ (Fld Z h sb "java/lang/AbstractStringBuilder" "count" "I" (.int (kk + nn))) ∧ (Arv Z h vb kv .byte (16 : Int32) (pre ++ own_take vs dd nn.toNatClampNeg) (Value.int (0 : Int32)))
theorem pd___I : parseMethodDescriptor "()I" = some ⟨[], (some .int)⟩ := by decide +kernel
theorem pd__ILjava_lang_String__V : parseMethodDescriptor "(ILjava/lang/String;)V" = some ⟨[.int, (.object "java/lang/String")], none⟩ := by decide +kernel
set_option maxRecDepth 65536 in
set_option maxHeartbeats 40000000 in
theorem rm_Aap (l : Launch) (Z : State) (a0 : Array Value) (hw : ∀ d ∈ tables_1, d.before a0 Z = true) (ws : List Jvm.Cond) (G1 : Int32) (sb : Addr) (vb : Addr) (kv : ClassId) (kk : Int32) (pre : List Value) (sa : Addr) (bb : Addr) (kb : ClassId) (nn : Int32) (vs : List Value) (dd : Value) (h0 : Heap) (n0 : Nat) (Z0 : n0 ≤ h0.size) (O2 : Sta Z Z.heap "java/lang/String" "COMPACT_STRINGS" "Z" (.int G1)) (P5 : ¬ G1 = 0) (f2 : Exa Z h0 sb "java/lang/StringBuilder") (f3 : Fld Z h0 sb "java/lang/AbstractStringBuilder" "value" "[B" (.ref vb)) (f4 : Fld Z h0 sb "java/lang/AbstractStringBuilder" "coder" "B" (.int (0 : Int32))) (f5 : Fld Z h0 sb "java/lang/AbstractStringBuilder" "count" "I" (.int kk)) (f6 : Arv Z h0 vb kv .byte (16 : Int32) pre (Value.int (0 : Int32))) (f7 : Exa Z h0 sa "java/lang/String") (f8 : Fld Z h0 sa "java/lang/String" "coder" "B" (.int (0 : Int32))) (f9 : Fld Z h0 sa "java/lang/String" "value" "[B" (.ref bb)) (f10 : Arv Z h0 bb kb .byte nn vs dd) (hk0 : ¬ kk < 0) (hn0 : ¬ nn < 0) (hkl : kk.toNatClampNeg = pre.length) (h16 : pre.length + nn.toNatClampNeg ≤ 16) (hcap : ¬ (0 : Int32) < ((kk + nn) - (16 : Int32))) (gs : n0 ≤ sb) (gb : n0 ≤ vb) (q1 : bb ≠ vb) (q2 : sa ≠ sb) (q3 : bb ≠ sb) (q4 : vb ≠ sb) (q5 : sa ≠ vb) (Old0 : OldL Z n0 h0) :
    MetFree l (⟨"java/lang/AbstractStringBuilder", "append", "(Ljava/lang/String;)Ljava/lang/AbstractStringBuilder;"⟩ : MethodName) (head1 (Jvm.Cond.code (⟨"java/lang/AbstractStringBuilder", "append", "(Ljava/lang/String;)Ljava/lang/AbstractStringBuilder;"⟩ : MethodName) jdk_68_method_22_code 3 (some (.object "java/lang/AbstractStringBuilder")) :: ws) ({ frames := 3, cells := 0, slots := 0, locals := 47 } : Room)) (fun a U => a = #[(.ref sb), (.ref sa)] ∧ Z.Warmed39 U.vm ∧ U.heap = h0) (fun _ _ _ _ _ => True) (fun _ U o U' => ∃ v L, o = .returned v ∧ Q_rm_Aap Z G1 sb vb kv kk pre sa bb kb nn vs dd h0 n0 v U'.heap L ∧ FrameEnd U o U' L ({ frames := 3, cells := 0, slots := 0, locals := 47 } : Room).cells ({ frames := 3, cells := 0, slots := 0, locals := 47 } : Room).slots) := by
 refine MetFree.of_bodySF (plainFor_of_name pn_java_lang_AbstractStringBuilder) hisR ?_
 intro p e s m args below meth c s₁ Bd hml0 hP hK
 obtain ⟨rfl, hZ, hh⟩ := hP
 have hx := Bd.exec
 have hby := Bd.bytes
 have hml : c.maxLocals = 3 := hml0
 have hown : s.vm.findClass "java/lang/AbstractStringBuilder" = some m.cls := findClass_of_methodNamed Bd.named
 have hnm := (name_of_methodNamed Bd.named Bd.method).1
 have X0 : Stand p l e ({ frames := 3, cells := 0, slots := 0, locals := 47 } : Room) s m #[(.ref sb), (.ref sa)] below meth c s₁ [] 0 0 := Stand.of_body Bd
 have e0 : s₁.heap = h0 := by rw [← hh, Bd.state]; rfl
 have N0 := Fr.nil n0
 have K00 : Keep h0 h0 [sb, vb] := Keep.refl _ _
 show Rch p e below s₁ (entryFrame m #[(.ref sb), (.ref sa)] 3) (FinP s (Q_rm_Aap Z G1 sb vb kv kk pre sa bb kb nn vs dd h0 n0) 0 0)
 refine Rch.cast (ef_rm_Aap m G1 sb vb kv kk pre sa bb kb nn vs dd) ?_
 show Rch p e below s₁ (mkF m 0 #[.val (.ref sb), .val (.ref sa), .unset] []) _
 refine w_aloadN (pc' := 1) X0 hx hby djdk68m22_0 rfl rfl rfl ?_
 refine w_nonnullYes (pc' := 9) X0 hx hby djdk68m22_1 rfl (fun q => nomatch q) (by decide) ?_
 refine w_aloadN (pc' := 10) X0 hx hby djdk68m22_9 rfl rfl rfl ?_
 obtain ⟨cq143, kq143, q143a, q143b, q143c⟩ := isOf hZ e0 f7
 obtain ⟨_, _, ⟨T143, L143, k143, n143⟩, -, X143, ⟨Lc143, hQ143, l143, y143, z143⟩, st143⟩ := X0.virtualBack hx (y := (⟨"java/lang/String", "length", "()I"⟩ : MethodName)) (z := (⟨"java/lang/String", "length", "()I"⟩ : MethodName)) hown (mvT hZ (wi hw 66 rfl)) (mvT hZ (wi hw 67 rfl)) (notFace_of_selects (args := #[]) (mvT hZ (wi hw 69 rfl))) (mvT hZ (wi hw 69 rfl)) (mvT hZ (wi hw 68 rfl)) (by decide) (backOf (W := 0) (rm_length l Z a0 hw [] G1 sa 0 bb kb nn vs dd h0 n0 Z0 (O2) (P5) f8 (Or.inl rfl) f9 f10 f7 Old0) hZ (wi hw 70 rfl) (wi hw 6 rfl) (by decide) (by decide)) q143a q143c (g := (mkF m 10 #[.val (.ref sb), .val (.ref sa), .unset] [(.ref sa)])) rfl (by rw [hml]; rfl) (Steps.refl _) (argsL := []) (rest := []) (lenOf pd___I rfl) rfl (by show 2 * 0 + _ ≤ _; exact Nat.le_of_eq rfl) (hb hby djdk68m22_10) (fun _ _ => ⟨rfl, e0, (by decide : 0 + 0 ≤ _), (by decide : 0 + 0 ≤ _)⟩)
 dsimp only [Pt.U, Pt.locs, Pt.cells, Pt.slots] at X143 l143 y143 z143 st143 hQ143
 subst l143 y143 z143
 obtain ⟨rfl, NQ143, K143⟩ := hQ143
 have N144 := Fr.app N0 NQ143
 refine Rch.st (fun _ k => st143.trans k) ?_
 show Rch p e below T143 (mkF m 13 #[.val (.ref sb), .val (.ref sa), .unset] [(.int (nn >>> ((0 : Int32) &&& 31)))]) _
 have r145 : (nn >>> ((0 : Int32) &&& 31)) = nn := own_sh0 nn
 rw [r145]
 show Rch p e below T143 (mkF m 13 #[.val (.ref sb), .val (.ref sa), .unset] [(.int nn)]) _
 refine w_istoreN (pc' := 14) (l' := #[.val (.ref sb), .val (.ref sa), .val (.int nn)]) X143 hx hby djdk68m22_13 rfl rfl ?_
 refine w_aloadN (pc' := 15) X143 hx hby djdk68m22_14 rfl rfl rfl ?_
 refine w_aloadN (pc' := 16) X143 hx hby djdk68m22_15 rfl rfl rfl ?_
 obtain ⟨T146, X146, e146, st146⟩ := getF X143 hx hZ hown (host := "") (Or.inl (wi hw 79 rfl)) Via.refl K143 f5 (g := (mkF m 16 #[.val (.ref sb), .val (.ref sa), .val (.int nn)] [(.ref sb), (.ref sb)])) rfl rfl (hb hby djdk68m22_16)
 refine Rch.st (fun _ k => st146 _ k) ?_
 show Rch p e below T146 (mkF m 19 #[.val (.ref sb), .val (.ref sa), .val (.int nn)] [(.int kk), (.ref sb)]) _
 refine w_iloadN (pc' := 20) X146 hx hby djdk68m22_19 rfl rfl ?_
 refine w_iadd (pc' := 21) X146 hx hby djdk68m22_20 rfl ?_
 obtain ⟨cq147, q147a, q147b⟩ := f2.cell
 obtain ⟨_, _, ⟨T147, L147, k147, n147⟩, -, X147, ⟨Lc147, hQ147, l147, y147, z147⟩, st147⟩ := X146.privateBack hx (y := (⟨"java/lang/AbstractStringBuilder", "ensureCapacityInternal", "(I)V"⟩ : MethodName)) hown (mvT hZ (wi hw 81 rfl)) (mvT hZ (wi hw 82 rfl)) (own_selQ (mvT hZ (wi hw 84 rfl)) (Cond.privateMethod_at (mvP hZ (wi hw 83 rfl) (args := #[]))) (mvT hZ (wi hw 82 rfl)) (by decide)) (Cond.privateMethod_at (mvP hZ (wi hw 83 rfl) (args := #[]))) (mvT hZ (wi hw 85 rfl)) (by decide) (backOf (W := 0) (rm_en l Z a0 hw [] sb vb kv kk pre (kk + nn) h0 n0 Z0 f2 f3 f4 f5 f6 (hcap)) hZ (wi hw 85 rfl) (wi hw 48 rfl) (by decide) (by decide)) (g := (mkF m 21 #[.val (.ref sb), .val (.ref sa), .val (.int nn)] [(.int (kk + nn)), (.ref sb)])) rfl (by rw [hml]; rfl) (Steps.refl _) (a := sb) (by rw [e146]; exact q147a) q147b (argsL := [(.int (kk + nn))]) (rest := []) (lenOf pd__I_V rfl) rfl (by show 2 * 0 + _ ≤ _; exact Nat.le_of_eq rfl) (hb hby djdk68m22_21) (fun _ _ => ⟨rfl, e146, (by decide : 0 + 0 ≤ _), (by decide : 0 + 0 ≤ _)⟩)
 dsimp only [Pt.U, Pt.locs, Pt.cells, Pt.slots] at X147 l147 y147 z147 st147 hQ147
 subst l147 y147 z147
 obtain ⟨rfl, NQ147, K147⟩ := hQ147
 have N148 := Fr.app N144 NQ147
 refine Rch.st (fun _ k => st147.trans k) ?_
 show Rch p e below T147 (mkF m 24 #[.val (.ref sb), .val (.ref sa), .val (.int nn)] []) _
 refine w_aloadN (pc' := 25) X147 hx hby djdk68m22_24 rfl rfl rfl ?_
 refine w_aloadN (pc' := 26) X147 hx hby djdk68m22_25 rfl rfl rfl ?_
 obtain ⟨T149, X149, e149, st149⟩ := getF X147 hx hZ hown (host := "") (Or.inl (wi hw 79 rfl)) Via.refl K147 f5 (g := (mkF m 26 #[.val (.ref sb), .val (.ref sa), .val (.int nn)] [(.ref sb), (.ref sb)])) rfl rfl (hb hby djdk68m22_26)
 refine Rch.st (fun _ k => st149 _ k) ?_
 show Rch p e below T149 (mkF m 29 #[.val (.ref sb), .val (.ref sa), .val (.int nn)] [(.int kk), (.ref sb)]) _
 refine w_aloadN (pc' := 30) X149 hx hby djdk68m22_29 rfl rfl rfl ?_
 obtain ⟨cq150, q150a, q150b⟩ := f2.cell
 obtain ⟨_, _, ⟨T150, L150, k150, n150⟩, -, X150, ⟨Lc150, hQ150, l150, y150, z150⟩, st150⟩ := X149.privateBack hx (y := (⟨"java/lang/AbstractStringBuilder", "putStringAt", "(ILjava/lang/String;)V"⟩ : MethodName)) hown (mvT hZ (wi hw 86 rfl)) (mvT hZ (wi hw 87 rfl)) (own_selQ (mvT hZ (wi hw 89 rfl)) (Cond.privateMethod_at (mvP hZ (wi hw 88 rfl) (args := #[]))) (mvT hZ (wi hw 87 rfl)) (by decide)) (Cond.privateMethod_at (mvP hZ (wi hw 88 rfl) (args := #[]))) (mvT hZ (wi hw 90 rfl)) (by decide) (backOf (W := 0) (rm_psa l Z a0 hw [] G1 sb vb kv kk pre sa bb kb nn vs dd h0 n0 Z0 (O2) (P5) f2 f3 f4 f5 f6 f7 f8 f9 f10 (hk0) (hn0) (hkl) (h16) (gb) (q1) (q2) (q3) (q4) (q5) Old0) hZ (wi hw 90 rfl) (wi hw 48 rfl) (by decide) (by decide)) (g := (mkF m 30 #[.val (.ref sb), .val (.ref sa), .val (.int nn)] [(.ref sa), (.int kk), (.ref sb)])) rfl (by rw [hml]; rfl) (Steps.refl _) (a := sb) (by rw [e149]; exact q150a) q150b (argsL := [(.int kk), (.ref sa)]) (rest := []) (lenOf pd__ILjava_lang_String__V rfl) rfl (by show 2 * 0 + _ ≤ _; exact Nat.le_of_eq rfl) (hb hby djdk68m22_30) (fun _ _ => ⟨rfl, e149, (by decide : 0 + 0 ≤ _), (by decide : 0 + 0 ≤ _)⟩)
 dsimp only [Pt.U, Pt.locs, Pt.cells, Pt.slots] at X150 l150 y150 z150 st150 hQ150
 subst l150 y150 z150
 obtain ⟨rfl, NQ150, K150, fq150_0⟩ := hQ150
 have N151 := Fr.app N148 NQ150
 have f152 := f2.keep K150
 have f153 := f3.keep K150 (ninS (Ne.symm q4) nin0)
 have f154 := f4.keep K150 (ninS (Ne.symm q4) nin0)
 have f155 := f5.keep K150 (ninS (Ne.symm q4) nin0)
 have Kp161 : Keep h0 T150.heap [sb, vb] := K00.trans K150 (allS (Or.inl (List.mem_of_getElem? (i := 1) rfl)) all0)
 refine Rch.st (fun _ k => st150.trans k) ?_
 show Rch p e below T150 (mkF m 33 #[.val (.ref sb), .val (.ref sa), .val (.int nn)] []) _
 refine w_aloadN (pc' := 34) X150 hx hby djdk68m22_33 rfl rfl rfl ?_
 refine w_dup (pc' := 35) X150 hx hby djdk68m22_34 rfl rfl ?_
 obtain ⟨T163, X163, e163, st163⟩ := getF X150 hx hZ hown (host := "") (Or.inl (wi hw 79 rfl)) Via.refl (rfl : T150.heap = T150.heap) f155 (g := (mkF m 35 #[.val (.ref sb), .val (.ref sa), .val (.int nn)] [(.ref sb), (.ref sb)])) rfl rfl (hb hby djdk68m22_35)
 refine Rch.st (fun _ k => st163 _ k) ?_
 show Rch p e below T163 (mkF m 38 #[.val (.ref sb), .val (.ref sa), .val (.int nn)] [(.int kk), (.ref sb)]) _
 refine w_iloadN (pc' := 39) X163 hx hby djdk68m22_38 rfl rfl ?_
 refine w_iadd (pc' := 40) X163 hx hby djdk68m22_39 rfl ?_
 obtain ⟨T164, h164, X164, e164, W164, st164⟩ := putF X163 hx hZ hown (host := "") (Or.inl (wi hw 79 rfl)) Via.refl e163 f155 f152 (Or.inl (wi hw 80 rfl)) (wi hw 39 rfl) (ty := .int) (by decide) rfl rfl (g := (mkF m 40 #[.val (.ref sb), .val (.ref sa), .val (.int nn)] [(.int (kk + nn)), (.ref sb)])) rfl rfl (hb hby djdk68m22_40)
 have N165 := Fr.snoc X164 N151 gs
 have f167 := f153.other W164 (Or.inr (slot_ne (t := (.array .byte)) (t' := .int) (Or.inl (wi hw 53 rfl)) (Or.inl (wi hw 80 rfl)) (by decide) (by decide) (by decide)))
 have f168 := f154.other W164 (Or.inr (slot_ne (t := .byte) (t' := .int) (Or.inl (wi hw 55 rfl)) (Or.inl (wi hw 80 rfl)) (by decide) (by decide) (by decide)))
 have f169 := f155.same W164
 have f174 := fq150_0.other W164 q4
 have Kp177 : Keep h0 h164 [sb, vb] := Kp161.wr W164 (Or.inl (List.mem_of_getElem? (i := 0) rfl))
 refine Rch.st (fun _ k => st164 _ k) ?_
 show Rch p e below T164 (mkF m 43 #[.val (.ref sb), .val (.ref sa), .val (.int nn)] []) _
 refine w_aloadN (pc' := 44) X164 hx hby djdk68m22_43 rfl rfl rfl ?_
 exact Rch.retV X164 hx Bd.returns rfl (Or.inr (Or.inr (Or.inr (Or.inr ⟨rfl, rfl, rfl⟩)))) (hb hby djdk68m22_44) (by rw [e164]; exact ⟨rfl, N165, Kp177, f167, f168, f169, f174⟩) (by decide) (by decide)

theorem djdk67m7_0 : decode jdk_67_method_7_code 0 = .ok (.aload_n 0, 1) := by decide +kernel
theorem djdk67m7_1 : decode jdk_67_method_7_code 1 = .ok (.aload_n 1, 1) := by decide +kernel
theorem djdk67m7_2 : decode jdk_67_method_7_code 2 = .ok (.invokespecial 29, 3) := by decide +kernel
theorem djdk67m7_5 : decode jdk_67_method_7_code 5 = .ok (.pop, 1) := by decide +kernel
theorem djdk67m7_6 : decode jdk_67_method_7_code 6 = .ok (.aload_n 0, 1) := by decide +kernel
theorem djdk67m7_7 : decode jdk_67_method_7_code 7 = .ok (.areturn, 1) := by decide +kernel
theorem ef_rm_Bap (m : MethodId) (G1 : Int32) (sb : Addr) (vb : Addr) (kv : ClassId) (kk : Int32) (pre : List Value) (sa : Addr) (bb : Addr) (kb : ClassId) (nn : Int32) (vs : List Value) (dd : Value)  : entryFrame m #[(.ref sb), (.ref sa)] 2 = mkF m 0 #[.val (.ref sb), .val (.ref sa)] [] := by  first | (simp [entryFrame, mkF, argsToLocals, Value.category, maxLocals]; done) | rfl
def Q_rm_Bap (Z : State) (G1 : Int32) (sb : Addr) (vb : Addr) (kv : ClassId) (kk : Int32) (pre : List Value) (sa : Addr) (bb : Addr) (kb : ClassId) (nn : Int32) (vs : List Value) (dd : Value) (h0 : Heap) (n0 : Nat) (v : Option Value) (h : Heap) (L : List Loc) : Prop := (v = some (.ref sb)) ∧ (Fr n0 L) ∧ (Keep h0 h [sb, vb]) ∧ (Fld Z h sb "java/lang/AbstractStringBuilder" "value" "[B" (.ref vb)) ∧ (Fld Z h sb "java/lang/AbstractStringBuilder" "coder" "B" (.int (0 : Int32))) ∧ (Fld Z h sb "java/lang/AbstractStringBuilder" "count" "I" (.int (kk + nn))) ∧ (Arv Z h vb kv .byte (16 : Int32) (pre ++ own_take vs dd nn.toNatClampNeg) (Value.int (0 : Int32)))
theorem pd__Ljava_lang_String__Ljava_lang_AbstractStringBuilder_ : parseMethodDescriptor "(Ljava/lang/String;)Ljava/lang/AbstractStringBuilder;" = some ⟨[(.object "java/lang/String")], (some (.object "java/lang/AbstractStringBuilder"))⟩ := by decide +kernel
set_option maxRecDepth 65536 in
set_option maxHeartbeats 40000000 in
theorem rm_Bap (l : Launch) (Z : State) (a0 : Array Value) (hw : ∀ d ∈ tables_1, d.before a0 Z = true) (ws : List Jvm.Cond) (G1 : Int32) (sb : Addr) (vb : Addr) (kv : ClassId) (kk : Int32) (pre : List Value) (sa : Addr) (bb : Addr) (kb : ClassId) (nn : Int32) (vs : List Value) (dd : Value) (h0 : Heap) (n0 : Nat) (Z0 : n0 ≤ h0.size) (O2 : Sta Z Z.heap "java/lang/String" "COMPACT_STRINGS" "Z" (.int G1)) (P5 : ¬ G1 = 0) (f2 : Exa Z h0 sb "java/lang/StringBuilder") (f3 : Fld Z h0 sb "java/lang/AbstractStringBuilder" "value" "[B" (.ref vb)) (f4 : Fld Z h0 sb "java/lang/AbstractStringBuilder" "coder" "B" (.int (0 : Int32))) (f5 : Fld Z h0 sb "java/lang/AbstractStringBuilder" "count" "I" (.int kk)) (f6 : Arv Z h0 vb kv .byte (16 : Int32) pre (Value.int (0 : Int32))) (f7 : Exa Z h0 sa "java/lang/String") (f8 : Fld Z h0 sa "java/lang/String" "coder" "B" (.int (0 : Int32))) (f9 : Fld Z h0 sa "java/lang/String" "value" "[B" (.ref bb)) (f10 : Arv Z h0 bb kb .byte nn vs dd) (hk0 : ¬ kk < 0) (hn0 : ¬ nn < 0) (hkl : kk.toNatClampNeg = pre.length) (h16 : pre.length + nn.toNatClampNeg ≤ 16) (hcap : ¬ (0 : Int32) < ((kk + nn) - (16 : Int32))) (gs : n0 ≤ sb) (gb : n0 ≤ vb) (q1 : bb ≠ vb) (q2 : sa ≠ sb) (q3 : bb ≠ sb) (q4 : vb ≠ sb) (q5 : sa ≠ vb) (Old0 : OldL Z n0 h0) :
    MetFree l (⟨"java/lang/StringBuilder", "append", "(Ljava/lang/String;)Ljava/lang/StringBuilder;"⟩ : MethodName) (head1 (Jvm.Cond.code (⟨"java/lang/StringBuilder", "append", "(Ljava/lang/String;)Ljava/lang/StringBuilder;"⟩ : MethodName) jdk_67_method_7_code 2 (some (.object "java/lang/StringBuilder")) :: ws) ({ frames := 4, cells := 0, slots := 0, locals := 61 } : Room)) (fun a U => a = #[(.ref sb), (.ref sa)] ∧ Z.Warmed39 U.vm ∧ U.heap = h0) (fun _ _ _ _ _ => True) (fun _ U o U' => ∃ v L, o = .returned v ∧ Q_rm_Bap Z G1 sb vb kv kk pre sa bb kb nn vs dd h0 n0 v U'.heap L ∧ FrameEnd U o U' L ({ frames := 4, cells := 0, slots := 0, locals := 61 } : Room).cells ({ frames := 4, cells := 0, slots := 0, locals := 61 } : Room).slots) := by
 refine MetFree.of_bodySF (plainFor_of_name pn_java_lang_StringBuilder) hisR ?_
 intro p e s m args below meth c s₁ Bd hml0 hP hK
 obtain ⟨rfl, hZ, hh⟩ := hP
 have hx := Bd.exec
 have hby := Bd.bytes
 have hml : c.maxLocals = 2 := hml0
 have hown : s.vm.findClass "java/lang/StringBuilder" = some m.cls := findClass_of_methodNamed Bd.named
 have hnm := (name_of_methodNamed Bd.named Bd.method).1
 have X0 : Stand p l e ({ frames := 4, cells := 0, slots := 0, locals := 61 } : Room) s m #[(.ref sb), (.ref sa)] below meth c s₁ [] 0 0 := Stand.of_body Bd
 have e0 : s₁.heap = h0 := by rw [← hh, Bd.state]; rfl
 have N0 := Fr.nil n0
 have K00 : Keep h0 h0 [sb, vb] := Keep.refl _ _
 show Rch p e below s₁ (entryFrame m #[(.ref sb), (.ref sa)] 2) (FinP s (Q_rm_Bap Z G1 sb vb kv kk pre sa bb kb nn vs dd h0 n0) 0 0)
 refine Rch.cast (ef_rm_Bap m G1 sb vb kv kk pre sa bb kb nn vs dd) ?_
 show Rch p e below s₁ (mkF m 0 #[.val (.ref sb), .val (.ref sa)] []) _
 refine w_aloadN (pc' := 1) X0 hx hby djdk67m7_0 rfl rfl rfl ?_
 refine w_aloadN (pc' := 2) X0 hx hby djdk67m7_1 rfl rfl rfl ?_
 obtain ⟨_, _, ⟨T178, L178, k178, n178⟩, -, X178, ⟨Lc178, hQ178, l178, y178, z178⟩, st178⟩ := superBack X0 hx hZ (y := (⟨"java/lang/AbstractStringBuilder", "append", "(Ljava/lang/String;)Ljava/lang/AbstractStringBuilder;"⟩ : MethodName)) hown (wi hw 61 rfl) (own_sameM (args := a0) (wi hw 84 rfl) rfl (wi hw 62 rfl) (by decide)) (wi hw 62 rfl) (wi hw 63 rfl) (by decide) (backOf (W := 0) (rm_Aap l Z a0 hw [] G1 sb vb kv kk pre sa bb kb nn vs dd h0 n0 Z0 (O2) (P5) f2 f3 f4 f5 f6 f7 f8 f9 f10 (hk0) (hn0) (hkl) (h16) (hcap) (gs) (gb) (q1) (q2) (q3) (q4) (q5) Old0) hZ (wi hw 65 rfl) (wi hw 48 rfl) (by decide) (by decide)) e0 (Ins.self f2) (g := (mkF m 2 #[.val (.ref sb), .val (.ref sa)] [(.ref sa), (.ref sb)])) rfl (by rw [hml]; rfl) (wi hw 65 rfl) (argsL := [(.ref sa)]) (rest := []) (lenOf pd__Ljava_lang_String__Ljava_lang_AbstractStringBuilder_ rfl) rfl (by show 2 * 0 + _ ≤ _; exact Nat.le_of_eq rfl) (hb hby djdk67m7_2) (fun _ _ => ⟨rfl, e0, (by decide : 0 + 0 ≤ _), (by decide : 0 + 0 ≤ _)⟩)
 dsimp only [Pt.U, Pt.locs, Pt.cells, Pt.slots] at X178 l178 y178 z178 st178 hQ178
 subst l178 y178 z178
 obtain ⟨rfl, NQ178, K178, fq178_0, fq178_1, fq178_2, fq178_3⟩ := hQ178
 have N179 := Fr.app N0 NQ178
 have Kp186 : Keep h0 T178.heap [sb, vb] := K00.trans K178 (allS (Or.inl (List.mem_of_getElem? (i := 0) rfl)) (allS (Or.inl (List.mem_of_getElem? (i := 1) rfl)) all0))
 refine Rch.st (fun _ k => st178.trans k) ?_
 show Rch p e below T178 (mkF m 5 #[.val (.ref sb), .val (.ref sa)] [(.ref sb)]) _
 refine w_pop (pc' := 6) X178 hx hby djdk67m7_5 rfl rfl ?_
 refine w_aloadN (pc' := 7) X178 hx hby djdk67m7_6 rfl rfl rfl ?_
 exact Rch.retV X178 hx Bd.returns rfl (Or.inr (Or.inr (Or.inr (Or.inr ⟨rfl, rfl, rfl⟩)))) (hb hby djdk67m7_7) (by rw [(rfl : T178.heap = T178.heap)]; exact ⟨rfl, N179, Kp186, fq178_0, fq178_1, fq178_2, fq178_3⟩) (by decide) (by decide)

theorem djdk68m64_0 : decode jdk_68_method_64_code 0 = .ok (.aload_n 0, 1) := by decide +kernel
theorem djdk68m64_1 : decode jdk_68_method_64_code 1 = .ok (.getfield 15, 3) := by decide +kernel
theorem djdk68m64_4 : decode jdk_68_method_64_code 4 = .ok (.areturn, 1) := by decide +kernel
theorem ef_rm_gv (m : MethodId) (sb : Addr) (vb : Addr) (kv : ClassId) (kk : Int32) (pre : List Value)  : entryFrame m #[(.ref sb)] 1 = mkF m 0 #[.val (.ref sb)] [] := by  first | (simp [entryFrame, mkF, argsToLocals, Value.category, maxLocals]; done) | rfl
def Q_rm_gv (Z : State) (sb : Addr) (vb : Addr) (kv : ClassId) (kk : Int32) (pre : List Value) (h0 : Heap) (n0 : Nat) (v : Option Value) (h : Heap) (L : List Loc) : Prop := (v = some (.ref vb)) ∧ (Fr n0 L) ∧ (h = h0)
set_option maxRecDepth 65536 in
set_option maxHeartbeats 40000000 in
theorem rm_gv (l : Launch) (Z : State) (a0 : Array Value) (hw : ∀ d ∈ tables_1, d.before a0 Z = true) (ws : List Jvm.Cond) (sb : Addr) (vb : Addr) (kv : ClassId) (kk : Int32) (pre : List Value) (h0 : Heap) (n0 : Nat) (Z0 : n0 ≤ h0.size) (f0 : Exa Z h0 sb "java/lang/StringBuilder") (f1 : Fld Z h0 sb "java/lang/AbstractStringBuilder" "value" "[B" (.ref vb)) (f2 : Fld Z h0 sb "java/lang/AbstractStringBuilder" "coder" "B" (.int (0 : Int32))) (f3 : Fld Z h0 sb "java/lang/AbstractStringBuilder" "count" "I" (.int kk)) (f4 : Arv Z h0 vb kv .byte (16 : Int32) pre (Value.int (0 : Int32))) :
    MetFree l (⟨"java/lang/AbstractStringBuilder", "getValue", "()[B"⟩ : MethodName) (head1 (Jvm.Cond.code (⟨"java/lang/AbstractStringBuilder", "getValue", "()[B"⟩ : MethodName) jdk_68_method_64_code 1 (some (.array .byte)) :: ws) ({ frames := 0, cells := 0, slots := 0, locals := 0 } : Room)) (fun a U => a = #[(.ref sb)] ∧ Z.Warmed39 U.vm ∧ U.heap = h0) (fun _ _ _ _ _ => True) (fun _ U o U' => ∃ v L, o = .returned v ∧ Q_rm_gv Z sb vb kv kk pre h0 n0 v U'.heap L ∧ FrameEnd U o U' L ({ frames := 0, cells := 0, slots := 0, locals := 0 } : Room).cells ({ frames := 0, cells := 0, slots := 0, locals := 0 } : Room).slots) := by
 refine MetFree.of_bodySF (plainFor_of_name pn_java_lang_AbstractStringBuilder) hisR ?_
 intro p e s m args below meth c s₁ Bd hml0 hP hK
 obtain ⟨rfl, hZ, hh⟩ := hP
 have hx := Bd.exec
 have hby := Bd.bytes
 have hml : c.maxLocals = 1 := hml0
 have hown : s.vm.findClass "java/lang/AbstractStringBuilder" = some m.cls := findClass_of_methodNamed Bd.named
 have hnm := (name_of_methodNamed Bd.named Bd.method).1
 have X0 : Stand p l e ({ frames := 0, cells := 0, slots := 0, locals := 0 } : Room) s m #[(.ref sb)] below meth c s₁ [] 0 0 := Stand.of_body Bd
 have e0 : s₁.heap = h0 := by rw [← hh, Bd.state]; rfl
 have N0 := Fr.nil n0
 have K00 : Keep h0 h0 [] := Keep.refl _ _
 show Rch p e below s₁ (entryFrame m #[(.ref sb)] 1) (FinP s (Q_rm_gv Z sb vb kv kk pre h0 n0) 0 0)
 refine Rch.cast (ef_rm_gv m sb vb kv kk pre) ?_
 show Rch p e below s₁ (mkF m 0 #[.val (.ref sb)] []) _
 refine w_aloadN (pc' := 1) X0 hx hby djdk68m64_0 rfl rfl rfl ?_
 obtain ⟨T188, X188, e188, st188⟩ := getF X0 hx hZ hown (host := "") (Or.inl (wi hw 52 rfl)) Via.refl e0 f1 (g := (mkF m 1 #[.val (.ref sb)] [(.ref sb)])) rfl rfl (hb hby djdk68m64_1)
 refine Rch.st (fun _ k => st188 _ k) ?_
 show Rch p e below T188 (mkF m 4 #[.val (.ref sb)] [(.ref vb)]) _
 exact Rch.retV X188 hx Bd.returns rfl (Or.inr (Or.inr (Or.inr (Or.inr ⟨rfl, rfl, rfl⟩)))) (hb hby djdk68m64_4) (by rw [e188]; exact ⟨rfl, N0, rfl⟩) (by decide) (by decide)

theorem djdk68m6_0 : decode jdk_68_method_6_code 0 = .ok (.aload_n 0, 1) := by decide +kernel
theorem djdk68m6_1 : decode jdk_68_method_6_code 1 = .ok (.getfield 79, 3) := by decide +kernel
theorem djdk68m6_4 : decode jdk_68_method_6_code 4 = .ok (.ireturn, 1) := by decide +kernel
theorem ef_rm_Al (m : MethodId) (sb : Addr) (vb : Addr) (kv : ClassId) (kk : Int32) (pre : List Value)  : entryFrame m #[(.ref sb)] 1 = mkF m 0 #[.val (.ref sb)] [] := by  first | (simp [entryFrame, mkF, argsToLocals, Value.category, maxLocals]; done) | rfl
def Q_rm_Al (Z : State) (sb : Addr) (vb : Addr) (kv : ClassId) (kk : Int32) (pre : List Value) (h0 : Heap) (n0 : Nat) (v : Option Value) (h : Heap) (L : List Loc) : Prop := (v = some (.int kk)) ∧ (Fr n0 L) ∧ (h = h0)
set_option maxRecDepth 65536 in
set_option maxHeartbeats 40000000 in
theorem rm_Al (l : Launch) (Z : State) (a0 : Array Value) (hw : ∀ d ∈ tables_1, d.before a0 Z = true) (ws : List Jvm.Cond) (sb : Addr) (vb : Addr) (kv : ClassId) (kk : Int32) (pre : List Value) (h0 : Heap) (n0 : Nat) (Z0 : n0 ≤ h0.size) (f0 : Exa Z h0 sb "java/lang/StringBuilder") (f1 : Fld Z h0 sb "java/lang/AbstractStringBuilder" "value" "[B" (.ref vb)) (f2 : Fld Z h0 sb "java/lang/AbstractStringBuilder" "coder" "B" (.int (0 : Int32))) (f3 : Fld Z h0 sb "java/lang/AbstractStringBuilder" "count" "I" (.int kk)) (f4 : Arv Z h0 vb kv .byte (16 : Int32) pre (Value.int (0 : Int32))) :
    MetFree l (⟨"java/lang/AbstractStringBuilder", "length", "()I"⟩ : MethodName) (head1 (Jvm.Cond.code (⟨"java/lang/AbstractStringBuilder", "length", "()I"⟩ : MethodName) jdk_68_method_6_code 1 (some .int) :: ws) ({ frames := 0, cells := 0, slots := 0, locals := 0 } : Room)) (fun a U => a = #[(.ref sb)] ∧ Z.Warmed39 U.vm ∧ U.heap = h0) (fun _ _ _ _ _ => True) (fun _ U o U' => ∃ v L, o = .returned v ∧ Q_rm_Al Z sb vb kv kk pre h0 n0 v U'.heap L ∧ FrameEnd U o U' L ({ frames := 0, cells := 0, slots := 0, locals := 0 } : Room).cells ({ frames := 0, cells := 0, slots := 0, locals := 0 } : Room).slots) := by
 refine MetFree.of_bodySF (plainFor_of_name pn_java_lang_AbstractStringBuilder) hisR ?_
 intro p e s m args below meth c s₁ Bd hml0 hP hK
 obtain ⟨rfl, hZ, hh⟩ := hP
 have hx := Bd.exec
 have hby := Bd.bytes
 have hml : c.maxLocals = 1 := hml0
 have hown : s.vm.findClass "java/lang/AbstractStringBuilder" = some m.cls := findClass_of_methodNamed Bd.named
 have hnm := (name_of_methodNamed Bd.named Bd.method).1
 have X0 : Stand p l e ({ frames := 0, cells := 0, slots := 0, locals := 0 } : Room) s m #[(.ref sb)] below meth c s₁ [] 0 0 := Stand.of_body Bd
 have e0 : s₁.heap = h0 := by rw [← hh, Bd.state]; rfl
 have N0 := Fr.nil n0
 have K00 : Keep h0 h0 [] := Keep.refl _ _
 show Rch p e below s₁ (entryFrame m #[(.ref sb)] 1) (FinP s (Q_rm_Al Z sb vb kv kk pre h0 n0) 0 0)
 refine Rch.cast (ef_rm_Al m sb vb kv kk pre) ?_
 show Rch p e below s₁ (mkF m 0 #[.val (.ref sb)] []) _
 refine w_aloadN (pc' := 1) X0 hx hby djdk68m6_0 rfl rfl rfl ?_
 obtain ⟨T189, X189, e189, st189⟩ := getF X0 hx hZ hown (host := "") (Or.inl (wi hw 79 rfl)) Via.refl e0 f3 (g := (mkF m 1 #[.val (.ref sb)] [(.ref sb)])) rfl rfl (hb hby djdk68m6_1)
 refine Rch.st (fun _ k => st189 _ k) ?_
 show Rch p e below T189 (mkF m 4 #[.val (.ref sb)] [(.int kk)]) _
 exact Rch.retV X189 hx Bd.returns rfl (Or.inl ⟨rfl, by simp, _, rfl⟩) (hb hby djdk68m6_4) (by rw [e189]; exact ⟨rfl, N0, rfl⟩) (by decide) (by decide)

theorem djdk67m93_0 : decode jdk_67_method_93_code 0 = .ok (.aload_n 0, 1) := by decide +kernel
theorem djdk67m93_1 : decode jdk_67_method_93_code 1 = .ok (.invokespecial 343, 3) := by decide +kernel
theorem djdk67m93_4 : decode jdk_67_method_93_code 4 = .ok (.ireturn, 1) := by decide +kernel
theorem ef_rm_Bl (m : MethodId) (sb : Addr) (vb : Addr) (kv : ClassId) (kk : Int32) (pre : List Value)  : entryFrame m #[(.ref sb)] 1 = mkF m 0 #[.val (.ref sb)] [] := by  first | (simp [entryFrame, mkF, argsToLocals, Value.category, maxLocals]; done) | rfl
def Q_rm_Bl (Z : State) (sb : Addr) (vb : Addr) (kv : ClassId) (kk : Int32) (pre : List Value) (h0 : Heap) (n0 : Nat) (v : Option Value) (h : Heap) (L : List Loc) : Prop := (v = some (.int kk)) ∧ (Fr n0 L) ∧ (h = h0)
set_option maxRecDepth 65536 in
set_option maxHeartbeats 40000000 in
theorem rm_Bl (l : Launch) (Z : State) (a0 : Array Value) (hw : ∀ d ∈ tables_1, d.before a0 Z = true) (ws : List Jvm.Cond) (sb : Addr) (vb : Addr) (kv : ClassId) (kk : Int32) (pre : List Value) (h0 : Heap) (n0 : Nat) (Z0 : n0 ≤ h0.size) (f0 : Exa Z h0 sb "java/lang/StringBuilder") (f1 : Fld Z h0 sb "java/lang/AbstractStringBuilder" "value" "[B" (.ref vb)) (f2 : Fld Z h0 sb "java/lang/AbstractStringBuilder" "coder" "B" (.int (0 : Int32))) (f3 : Fld Z h0 sb "java/lang/AbstractStringBuilder" "count" "I" (.int kk)) (f4 : Arv Z h0 vb kv .byte (16 : Int32) pre (Value.int (0 : Int32))) :
    MetFree l (⟨"java/lang/StringBuilder", "length", "()I"⟩ : MethodName) (head1 (Jvm.Cond.code (⟨"java/lang/StringBuilder", "length", "()I"⟩ : MethodName) jdk_67_method_93_code 1 (some .int) :: ws) ({ frames := 1, cells := 0, slots := 0, locals := 12 } : Room)) (fun a U => a = #[(.ref sb)] ∧ Z.Warmed39 U.vm ∧ U.heap = h0) (fun _ _ _ _ _ => True) (fun _ U o U' => ∃ v L, o = .returned v ∧ Q_rm_Bl Z sb vb kv kk pre h0 n0 v U'.heap L ∧ FrameEnd U o U' L ({ frames := 1, cells := 0, slots := 0, locals := 12 } : Room).cells ({ frames := 1, cells := 0, slots := 0, locals := 12 } : Room).slots) := by
 refine MetFree.of_bodySF (plainFor_of_name pn_java_lang_StringBuilder) hisR ?_
 intro p e s m args below meth c s₁ Bd hml0 hP hK
 obtain ⟨rfl, hZ, hh⟩ := hP
 have hx := Bd.exec
 have hby := Bd.bytes
 have hml : c.maxLocals = 1 := hml0
 have hown : s.vm.findClass "java/lang/StringBuilder" = some m.cls := findClass_of_methodNamed Bd.named
 have hnm := (name_of_methodNamed Bd.named Bd.method).1
 have X0 : Stand p l e ({ frames := 1, cells := 0, slots := 0, locals := 12 } : Room) s m #[(.ref sb)] below meth c s₁ [] 0 0 := Stand.of_body Bd
 have e0 : s₁.heap = h0 := by rw [← hh, Bd.state]; rfl
 have N0 := Fr.nil n0
 have K00 : Keep h0 h0 [] := Keep.refl _ _
 show Rch p e below s₁ (entryFrame m #[(.ref sb)] 1) (FinP s (Q_rm_Bl Z sb vb kv kk pre h0 n0) 0 0)
 refine Rch.cast (ef_rm_Bl m sb vb kv kk pre) ?_
 show Rch p e below s₁ (mkF m 0 #[.val (.ref sb)] []) _
 refine w_aloadN (pc' := 1) X0 hx hby djdk67m93_0 rfl rfl rfl ?_
 obtain ⟨_, _, ⟨T190, L190, k190, n190⟩, -, X190, ⟨Lc190, hQ190, l190, y190, z190⟩, st190⟩ := superBack X0 hx hZ (y := (⟨"java/lang/AbstractStringBuilder", "length", "()I"⟩ : MethodName)) hown (wi hw 131 rfl) (own_sameM (args := a0) (wi hw 84 rfl) rfl (wi hw 127 rfl) (by decide)) (wi hw 127 rfl) (wi hw 63 rfl) (by decide) (backOf (W := 0) (rm_Al l Z a0 hw [] sb vb kv kk pre h0 n0 Z0 f0 f1 f2 f3 f4) hZ (wi hw 132 rfl) (wi hw 48 rfl) (by decide) (by decide)) e0 (Ins.self f0) (g := (mkF m 1 #[.val (.ref sb)] [(.ref sb)])) rfl (by rw [hml]; rfl) (wi hw 132 rfl) (argsL := []) (rest := []) (lenOf pd___I rfl) rfl (by show 2 * 0 + _ ≤ _; exact Nat.le_of_eq rfl) (hb hby djdk67m93_1) (fun _ _ => ⟨rfl, e0, (by decide : 0 + 0 ≤ _), (by decide : 0 + 0 ≤ _)⟩)
 dsimp only [Pt.U, Pt.locs, Pt.cells, Pt.slots] at X190 l190 y190 z190 st190 hQ190
 subst l190 y190 z190
 obtain ⟨rfl, NQ190, K190⟩ := hQ190
 have N191 := Fr.app N0 NQ190
 refine Rch.st (fun _ k => st190.trans k) ?_
 show Rch p e below T190 (mkF m 4 #[.val (.ref sb)] [(.int kk)]) _
 exact Rch.retV X190 hx Bd.returns rfl (Or.inl ⟨rfl, by simp, _, rfl⟩) (hb hby djdk67m93_4) (by rw [K190]; exact ⟨rfl, N191, rfl⟩) (by decide) (by decide)

theorem djdk68m68_0 : decode jdk_68_method_68_code 0 = .ok (.getstatic 18, 3) := by decide +kernel
theorem djdk68m68_3 : decode jdk_68_method_68_code 3 = .ok (.ifCond .eq 14, 3) := by decide +kernel
theorem djdk68m68_6 : decode jdk_68_method_68_code 6 = .ok (.aload_n 0, 1) := by decide +kernel
theorem djdk68m68_7 : decode jdk_68_method_68_code 7 = .ok (.getfield 22, 3) := by decide +kernel
theorem djdk68m68_10 : decode jdk_68_method_68_code 10 = .ok (.ifCond .ne 7, 3) := by decide +kernel
theorem djdk68m68_13 : decode jdk_68_method_68_code 13 = .ok (.iconst 1, 1) := by decide +kernel
theorem djdk68m68_14 : decode jdk_68_method_68_code 14 = .ok (.goto 4, 3) := by decide +kernel
theorem djdk68m68_18 : decode jdk_68_method_68_code 18 = .ok (.ireturn, 1) := by decide +kernel
theorem ef_rm_Ail (m : MethodId) (G1 : Int32) (sb : Addr) (vb : Addr) (kv : ClassId) (kk : Int32) (pre : List Value)  : entryFrame m #[(.ref sb)] 1 = mkF m 0 #[.val (.ref sb)] [] := by  first | (simp [entryFrame, mkF, argsToLocals, Value.category, maxLocals]; done) | rfl
def Q_rm_Ail (Z : State) (G1 : Int32) (sb : Addr) (vb : Addr) (kv : ClassId) (kk : Int32) (pre : List Value) (h0 : Heap) (n0 : Nat) (v : Option Value) (h : Heap) (L : List Loc) : Prop := (v = some (.int (1 : Int32))) ∧ (Fr n0 L) ∧ (h = h0)
set_option maxRecDepth 65536 in
set_option maxHeartbeats 40000000 in
theorem rm_Ail (l : Launch) (Z : State) (a0 : Array Value) (hw : ∀ d ∈ tables_1, d.before a0 Z = true) (ws : List Jvm.Cond) (G1 : Int32) (sb : Addr) (vb : Addr) (kv : ClassId) (kk : Int32) (pre : List Value) (h0 : Heap) (n0 : Nat) (Z0 : n0 ≤ h0.size) (O2 : Sta Z Z.heap "java/lang/String" "COMPACT_STRINGS" "Z" (.int G1)) (P5 : ¬ G1 = 0) (f2 : Exa Z h0 sb "java/lang/StringBuilder") (f3 : Fld Z h0 sb "java/lang/AbstractStringBuilder" "value" "[B" (.ref vb)) (f4 : Fld Z h0 sb "java/lang/AbstractStringBuilder" "coder" "B" (.int (0 : Int32))) (f5 : Fld Z h0 sb "java/lang/AbstractStringBuilder" "count" "I" (.int kk)) (f6 : Arv Z h0 vb kv .byte (16 : Int32) pre (Value.int (0 : Int32))) (Old0 : OldL Z n0 h0) :
    MetFree l (⟨"java/lang/AbstractStringBuilder", "isLatin1", "()Z"⟩ : MethodName) (head1 (Jvm.Cond.code (⟨"java/lang/AbstractStringBuilder", "isLatin1", "()Z"⟩ : MethodName) jdk_68_method_68_code 1 (some .boolean) :: ws) ({ frames := 0, cells := 0, slots := 0, locals := 0 } : Room)) (fun a U => a = #[(.ref sb)] ∧ Z.Warmed39 U.vm ∧ U.heap = h0) (fun _ _ _ _ _ => True) (fun _ U o U' => ∃ v L, o = .returned v ∧ Q_rm_Ail Z G1 sb vb kv kk pre h0 n0 v U'.heap L ∧ FrameEnd U o U' L ({ frames := 0, cells := 0, slots := 0, locals := 0 } : Room).cells ({ frames := 0, cells := 0, slots := 0, locals := 0 } : Room).slots) := by
 refine MetFree.of_bodySF (plainFor_of_name pn_java_lang_AbstractStringBuilder) hisR ?_
 intro p e s m args below meth c s₁ Bd hml0 hP hK
 obtain ⟨rfl, hZ, hh⟩ := hP
 have hx := Bd.exec
 have hby := Bd.bytes
 have hml : c.maxLocals = 1 := hml0
 have hown : s.vm.findClass "java/lang/AbstractStringBuilder" = some m.cls := findClass_of_methodNamed Bd.named
 have hnm := (name_of_methodNamed Bd.named Bd.method).1
 have X0 : Stand p l e ({ frames := 0, cells := 0, slots := 0, locals := 0 } : Room) s m #[(.ref sb)] below meth c s₁ [] 0 0 := Stand.of_body Bd
 have e0 : s₁.heap = h0 := by rw [← hh, Bd.state]; rfl
 have N0 := Fr.nil n0
 have K00 : Keep h0 h0 [] := Keep.refl _ _
 show Rch p e below s₁ (entryFrame m #[(.ref sb)] 1) (FinP s (Q_rm_Ail Z G1 sb vb kv kk pre h0 n0) 0 0)
 refine Rch.cast (ef_rm_Ail m G1 sb vb kv kk pre) ?_
 show Rch p e below s₁ (mkF m 0 #[.val (.ref sb)] []) _
 obtain ⟨T192, X192, e192, st192⟩ := getS X0 hx hZ hown (host := "") (wi hw 51 rfl) Via.refl e0 (O2.ext Old0.2) (g := (mkF m 0 #[.val (.ref sb)] [])) rfl (hb hby djdk68m68_0)
 refine Rch.st (fun _ k => st192 _ k) ?_
 show Rch p e below T192 (mkF m 3 #[.val (.ref sb)] [(.int G1)]) _
 refine w_ifNo (pc' := 6) X192 hx hby djdk68m68_3 (XT.i0_eq_f (P5)) rfl ?_
 refine w_aloadN (pc' := 7) X192 hx hby djdk68m68_6 rfl rfl rfl ?_
 obtain ⟨T193, X193, e193, st193⟩ := getF X192 hx hZ hown (host := "") (Or.inl (wi hw 54 rfl)) Via.refl e192 f4 (g := (mkF m 7 #[.val (.ref sb)] [(.ref sb)])) rfl rfl (hb hby djdk68m68_7)
 refine Rch.st (fun _ k => st193 _ k) ?_
 show Rch p e below T193 (mkF m 10 #[.val (.ref sb)] [(.int 0)]) _
 refine w_ifNo (pc' := 13) X193 hx hby djdk68m68_10 (XT.i0_ne_f (by decide)) rfl ?_
 refine w_iconst (pc' := 14) (v := 1) X193 hx hby djdk68m68_13 rfl rfl ?_
 refine w_goto (pc' := 18) X193 hx hby djdk68m68_14 (by decide) ?_
 exact Rch.retV X193 hx Bd.returns rfl (Or.inl ⟨rfl, by simp, _, rfl⟩) (hb hby djdk68m68_18) (by rw [e193]; exact ⟨rfl, N0, rfl⟩) (by decide) (by decide)

theorem djdk42m150_0 : decode jdk_42_method_150_code 0 = .ok (.aload_n 0, 1) := by decide +kernel
theorem djdk42m150_1 : decode jdk_42_method_150_code 1 = .ok (.invokespecial 1, 3) := by decide +kernel
theorem djdk42m150_4 : decode jdk_42_method_150_code 4 = .ok (.aload_n 1, 1) := by decide +kernel
theorem djdk42m150_5 : decode jdk_42_method_150_code 5 = .ok (.invokevirtual 552, 3) := by decide +kernel
theorem djdk42m150_8 : decode jdk_42_method_150_code 8 = .ok (.astore_n 3, 1) := by decide +kernel
theorem djdk42m150_9 : decode jdk_42_method_150_code 9 = .ok (.aload_n 1, 1) := by decide +kernel
theorem djdk42m150_10 : decode jdk_42_method_150_code 10 = .ok (.invokevirtual 549, 3) := by decide +kernel
theorem djdk42m150_13 : decode jdk_42_method_150_code 13 = .ok (.istore 4, 2) := by decide +kernel
theorem djdk42m150_15 : decode jdk_42_method_150_code 15 = .ok (.aload_n 1, 1) := by decide +kernel
theorem djdk42m150_16 : decode jdk_42_method_150_code 16 = .ok (.invokevirtual 1047, 3) := by decide +kernel
theorem djdk42m150_19 : decode jdk_42_method_150_code 19 = .ok (.ifCond .eq 22, 3) := by decide +kernel
theorem djdk42m150_22 : decode jdk_42_method_150_code 22 = .ok (.aload_n 0, 1) := by decide +kernel
theorem djdk42m150_23 : decode jdk_42_method_150_code 23 = .ok (.iconst 0, 1) := by decide +kernel
theorem djdk42m150_24 : decode jdk_42_method_150_code 24 = .ok (.putfield 15, 3) := by decide +kernel
theorem djdk42m150_27 : decode jdk_42_method_150_code 27 = .ok (.aload_n 0, 1) := by decide +kernel
theorem djdk42m150_28 : decode jdk_42_method_150_code 28 = .ok (.aload_n 3, 1) := by decide +kernel
theorem djdk42m150_29 : decode jdk_42_method_150_code 29 = .ok (.iconst 0, 1) := by decide +kernel
theorem djdk42m150_30 : decode jdk_42_method_150_code 30 = .ok (.iload 4, 2) := by decide +kernel
theorem djdk42m150_32 : decode jdk_42_method_150_code 32 = .ok (.invokestatic 54, 3) := by decide +kernel
theorem djdk42m150_35 : decode jdk_42_method_150_code 35 = .ok (.putfield 9, 3) := by decide +kernel
theorem djdk42m150_38 : decode jdk_42_method_150_code 38 = .ok (.goto 59, 3) := by decide +kernel
theorem djdk42m150_97 : decode jdk_42_method_150_code 97 = .ok (.return_, 1) := by decide +kernel
theorem ef_rm_SA (m : MethodId) (G1 : Int32) (a5 : Addr) (sb : Addr) (vb : Addr) (kv : ClassId) (kk : Int32) (pre : List Value)  : entryFrame m #[(.ref a5), (.ref sb), .null] 5 = mkF m 0 #[.val (.ref a5), .val (.ref sb), .val .null, .unset, .unset] [] := by  first | (simp [entryFrame, mkF, argsToLocals, Value.category, maxLocals]; done) | rfl
def Q_rm_SA (Z : State) (G1 : Int32) (a5 : Addr) (sb : Addr) (vb : Addr) (kv : ClassId) (kk : Int32) (pre : List Value) (h0 : Heap) (n0 : Nat) (v : Option Value) (h : Heap) (L : List Loc) : Prop := ∃ (t : Addr) (kt : ClassId), (v = none) ∧ (Fr n0 L) ∧ (Keep h0 h [a5]) ∧ (h0.size ≤ t) ∧ (Fld Z h a5 "java/lang/String" "coder" "B" (.int (0 : Int32))) ∧ (Fld Z h a5 "java/lang/String" "value" "[B" (.ref t)) ∧ (Arv Z h t kt .byte kk (own_take pre (Value.int (0 : Int32)) kk.toNatClampNeg) (.int (0 : Int32)))
theorem pd____B : parseMethodDescriptor "()[B" = some ⟨[], (some (.array .byte))⟩ := by decide +kernel
set_option maxRecDepth 65536 in
set_option maxHeartbeats 40000000 in
theorem rm_SA (l : Launch) (Z : State) (a0 : Array Value) (hw : ∀ d ∈ tables_1, d.before a0 Z = true) (ws : List Jvm.Cond) (G1 : Int32) (a5 : Addr) (sb : Addr) (vb : Addr) (kv : ClassId) (kk : Int32) (pre : List Value) (h0 : Heap) (n0 : Nat) (Z0 : n0 ≤ h0.size) (O2 : Sta Z Z.heap "java/lang/String" "COMPACT_STRINGS" "Z" (.int G1)) (P5 : ¬ G1 = 0) (f2 : Exa Z h0 sb "java/lang/StringBuilder") (f3 : Fld Z h0 sb "java/lang/AbstractStringBuilder" "value" "[B" (.ref vb)) (f4 : Fld Z h0 sb "java/lang/AbstractStringBuilder" "coder" "B" (.int (0 : Int32))) (f5 : Fld Z h0 sb "java/lang/AbstractStringBuilder" "count" "I" (.int kk)) (f6 : Arv Z h0 vb kv .byte (16 : Int32) pre (Value.int (0 : Int32))) (f7 : Exa Z h0 a5 "java/lang/String") (f8 : Fld Z h0 a5 "java/lang/String" "coder" "B" (.int (0 : Int32))) (f9 : Fld Z h0 a5 "java/lang/String" "value" "[B" .null) (hz0 : ¬ kk < 0) (hc : kk.toNatClampNeg ≤ 16) (hm : own_min32 (16 : Int32) kk = kk) (hl : kk.toNatClampNeg ≤ (16 : Int32).toNatClampNeg) (hne : ¬ kk = (16 : Int32)) (ga : n0 ≤ a5) (q6 : sb ≠ a5) (q7 : vb ≠ a5) (Old0 : OldL Z n0 h0) :
    MetFree l (⟨"java/lang/String", "<init>", "(Ljava/lang/AbstractStringBuilder;Ljava/lang/Void;)V"⟩ : MethodName) (head1 (Jvm.Cond.code (⟨"java/lang/String", "<init>", "(Ljava/lang/AbstractStringBuilder;Ljava/lang/Void;)V"⟩ : MethodName) jdk_42_method_150_code 5 none :: ws) ({ frames := 3, cells := 1, slots := 16, locals := 49 } : Room)) (fun a U => a = #[(.ref a5), (.ref sb), .null] ∧ Z.Warmed39 U.vm ∧ U.heap = h0) (fun _ _ _ _ _ => True) (fun _ U o U' => ∃ v L, o = .returned v ∧ Q_rm_SA Z G1 a5 sb vb kv kk pre h0 n0 v U'.heap L ∧ FrameEnd U o U' L ({ frames := 3, cells := 1, slots := 16, locals := 49 } : Room).cells ({ frames := 3, cells := 1, slots := 16, locals := 49 } : Room).slots) := by
 refine MetFree.of_bodySF (plainFor_of_name pn_java_lang_String) hisR ?_
 intro p e s m args below meth c s₁ Bd hml0 hP hK
 obtain ⟨rfl, hZ, hh⟩ := hP
 have hx := Bd.exec
 have hby := Bd.bytes
 have hml : c.maxLocals = 5 := hml0
 have hown : s.vm.findClass "java/lang/String" = some m.cls := findClass_of_methodNamed Bd.named
 have hnm := (name_of_methodNamed Bd.named Bd.method).1
 have X0 : Stand p l e ({ frames := 3, cells := 1, slots := 16, locals := 49 } : Room) s m #[(.ref a5), (.ref sb), .null] below meth c s₁ [] 0 0 := Stand.of_body Bd
 have e0 : s₁.heap = h0 := by rw [← hh, Bd.state]; rfl
 have N0 := Fr.nil n0
 have K00 : Keep h0 h0 [a5] := Keep.refl _ _
 show Rch p e below s₁ (entryFrame m #[(.ref a5), (.ref sb), .null] 5) (FinP s (Q_rm_SA Z G1 a5 sb vb kv kk pre h0 n0) 1 16)
 refine Rch.cast (ef_rm_SA m G1 a5 sb vb kv kk pre) ?_
 show Rch p e below s₁ (mkF m 0 #[.val (.ref a5), .val (.ref sb), .val .null, .unset, .unset] []) _
 refine w_aloadN (pc' := 1) X0 hx hby djdk42m150_0 rfl rfl rfl ?_
 obtain ⟨T194, X194, e194, st194⟩ := initO X0 hx hZ hown (wi hw 119 rfl) (wi hw 25 rfl) (wi hw 26 rfl) e0 (g := (mkF m 1 #[.val (.ref a5), .val (.ref sb), .val .null, .unset, .unset] [(.ref a5)])) rfl (by rw [hml]; rfl) rfl (hb hby djdk42m150_1) (by decide) (W := 0) (by show 2 * 0 + _ ≤ _; exact Nat.le_of_eq rfl) (by decide)
 refine Rch.st (fun _ k => st194 _ k) ?_
 show Rch p e below T194 (mkF m 4 #[.val (.ref a5), .val (.ref sb), .val .null, .unset, .unset] []) _
 refine w_aloadN (pc' := 5) X194 hx hby djdk42m150_4 rfl rfl rfl ?_
 obtain ⟨cq195, kq195, q195a, q195b, q195c⟩ := isOf hZ e194 f2
 obtain ⟨_, _, ⟨T195, L195, k195, n195⟩, -, X195, ⟨Lc195, hQ195, l195, y195, z195⟩, st195⟩ := X194.virtualBack hx (y := (⟨"java/lang/AbstractStringBuilder", "getValue", "()[B"⟩ : MethodName)) (z := (⟨"java/lang/AbstractStringBuilder", "getValue", "()[B"⟩ : MethodName)) hown (mvT hZ (wi hw 120 rfl)) (mvT hZ (wi hw 121 rfl)) (notFace_of_selects (args := #[]) (mvT hZ (wi hw 123 rfl))) (mvT hZ (wi hw 123 rfl)) (mvT hZ (wi hw 122 rfl)) (by decide) (backOf (W := 0) (rm_gv l Z a0 hw [] sb vb kv kk pre h0 n0 Z0 f2 f3 f4 f5 f6) hZ (wi hw 124 rfl) (wi hw 48 rfl) (by decide) (by decide)) q195a q195c (g := (mkF m 5 #[.val (.ref a5), .val (.ref sb), .val .null, .unset, .unset] [(.ref sb)])) rfl (by rw [hml]; rfl) (Steps.refl _) (argsL := []) (rest := []) (lenOf pd____B rfl) rfl (by show 2 * 0 + _ ≤ _; exact Nat.le_of_eq rfl) (hb hby djdk42m150_5) (fun _ _ => ⟨rfl, e194, (by decide : 0 + 0 ≤ _), (by decide : 0 + 0 ≤ _)⟩)
 dsimp only [Pt.U, Pt.locs, Pt.cells, Pt.slots] at X195 l195 y195 z195 st195 hQ195
 subst l195 y195 z195
 obtain ⟨rfl, NQ195, K195⟩ := hQ195
 have N196 := Fr.app N0 NQ195
 refine Rch.st (fun _ k => st195.trans k) ?_
 show Rch p e below T195 (mkF m 8 #[.val (.ref a5), .val (.ref sb), .val .null, .unset, .unset] [(.ref vb)]) _
 refine w_astoreN (pc' := 9) (l' := #[.val (.ref a5), .val (.ref sb), .val .null, .val (.ref vb), .unset]) X195 hx hby djdk42m150_8 rfl rfl rfl ?_
 refine w_aloadN (pc' := 10) X195 hx hby djdk42m150_9 rfl rfl rfl ?_
 obtain ⟨cq197, kq197, q197a, q197b, q197c⟩ := isOf hZ K195 f2
 obtain ⟨_, _, ⟨T197, L197, k197, n197⟩, -, X197, ⟨Lc197, hQ197, l197, y197, z197⟩, st197⟩ := X195.virtualBack hx (y := (⟨"java/lang/AbstractStringBuilder", "length", "()I"⟩ : MethodName)) (z := (⟨"java/lang/StringBuilder", "length", "()I"⟩ : MethodName)) hown (mvT hZ (wi hw 125 rfl)) (mvT hZ (wi hw 126 rfl)) (own_nf (args := #[]) (mvT hZ (wi hw 84 rfl)) rfl) (mvT hZ (wi hw 128 rfl)) (mvT hZ (wi hw 129 rfl)) (by decide) (backOf (W := 0) (rm_Bl l Z a0 hw [] sb vb kv kk pre h0 n0 Z0 f2 f3 f4 f5 f6) hZ (wi hw 130 rfl) (wi hw 40 rfl) (by decide) (by decide)) q197a q197c (g := (mkF m 10 #[.val (.ref a5), .val (.ref sb), .val .null, .val (.ref vb), .unset] [(.ref sb)])) rfl (by rw [hml]; rfl) (Steps.refl _) (argsL := []) (rest := []) (lenOf pd___I rfl) rfl (by show 2 * 0 + _ ≤ _; exact Nat.le_of_eq rfl) (hb hby djdk42m150_10) (fun _ _ => ⟨rfl, K195, (by decide : 0 + 0 ≤ _), (by decide : 0 + 0 ≤ _)⟩)
 dsimp only [Pt.U, Pt.locs, Pt.cells, Pt.slots] at X197 l197 y197 z197 st197 hQ197
 subst l197 y197 z197
 obtain ⟨rfl, NQ197, K197⟩ := hQ197
 have N198 := Fr.app N196 NQ197
 refine Rch.st (fun _ k => st197.trans k) ?_
 show Rch p e below T197 (mkF m 13 #[.val (.ref a5), .val (.ref sb), .val .null, .val (.ref vb), .unset] [(.int kk)]) _
 refine w_istore (pc' := 15) (l' := #[.val (.ref a5), .val (.ref sb), .val .null, .val (.ref vb), .val (.int kk)]) X197 hx hby djdk42m150_13 rfl rfl ?_
 refine w_aloadN (pc' := 16) X197 hx hby djdk42m150_15 rfl rfl rfl ?_
 obtain ⟨cq199, kq199, q199a, q199b, q199c⟩ := isOf hZ K197 f2
 obtain ⟨_, _, ⟨T199, L199, k199, n199⟩, -, X199, ⟨Lc199, hQ199, l199, y199, z199⟩, st199⟩ := X197.virtualBack hx (y := (⟨"java/lang/AbstractStringBuilder", "isLatin1", "()Z"⟩ : MethodName)) (z := (⟨"java/lang/AbstractStringBuilder", "isLatin1", "()Z"⟩ : MethodName)) hown (mvT hZ (wi hw 133 rfl)) (mvT hZ (wi hw 134 rfl)) (notFace_of_selects (args := #[]) (mvT hZ (wi hw 136 rfl))) (mvT hZ (wi hw 136 rfl)) (mvT hZ (wi hw 135 rfl)) (by decide) (backOf (W := 0) (rm_Ail l Z a0 hw [] G1 sb vb kv kk pre h0 n0 Z0 (O2) (P5) f2 f3 f4 f5 f6 Old0) hZ (wi hw 137 rfl) (wi hw 48 rfl) (by decide) (by decide)) q199a q199c (g := (mkF m 16 #[.val (.ref a5), .val (.ref sb), .val .null, .val (.ref vb), .val (.int kk)] [(.ref sb)])) rfl (by rw [hml]; rfl) (Steps.refl _) (argsL := []) (rest := []) (lenOf pd___Z rfl) rfl (by show 2 * 0 + _ ≤ _; exact Nat.le_of_eq rfl) (hb hby djdk42m150_16) (fun _ _ => ⟨rfl, K197, (by decide : 0 + 0 ≤ _), (by decide : 0 + 0 ≤ _)⟩)
 dsimp only [Pt.U, Pt.locs, Pt.cells, Pt.slots] at X199 l199 y199 z199 st199 hQ199
 subst l199 y199 z199
 obtain ⟨rfl, NQ199, K199⟩ := hQ199
 have N200 := Fr.app N198 NQ199
 refine Rch.st (fun _ k => st199.trans k) ?_
 show Rch p e below T199 (mkF m 19 #[.val (.ref a5), .val (.ref sb), .val .null, .val (.ref vb), .val (.int kk)] [(.int 1)]) _
 refine w_ifNo (pc' := 22) X199 hx hby djdk42m150_19 (XT.i0_eq_f (by decide)) rfl ?_
 refine w_aloadN (pc' := 23) X199 hx hby djdk42m150_22 rfl rfl rfl ?_
 refine w_iconst (pc' := 24) (v := 0) X199 hx hby djdk42m150_23 rfl rfl ?_
 obtain ⟨T201, h201, X201, e201, W201, st201⟩ := putF X199 hx hZ hown (host := "") (Or.inl (wi hw 78 rfl)) Via.refl K199 f8 f7 (Or.inr ⟨(wi hw 10 rfl), rfl, hnm⟩) (wi hw 7 rfl) (ty := .byte) (by decide) rfl rfl (g := (mkF m 24 #[.val (.ref a5), .val (.ref sb), .val .null, .val (.ref vb), .val (.int kk)] [(.int 0), (.ref a5)])) rfl rfl (hb hby djdk42m150_24)
 have N202 := Fr.snoc X201 N200 ga
 have f207 := f6.other W201 q7
 have f208 := f7.wr W201
 have f209 := f8.same W201
 have f210 := f9.other W201 (Or.inr (slot_ne (t := (.array .byte)) (t' := .byte) (Or.inr (wi hw 9 rfl)) (Or.inr (wi hw 10 rfl)) (by decide) (by decide) (by decide)))
 have Z212 := Nat.le_trans Z0 (Keep.of_wr W201).1
 have Kp213 : Keep h0 h201 [a5] := K00.wr W201 (Or.inl (List.mem_of_getElem? (i := 0) rfl))
 refine Rch.st (fun _ k => st201 _ k) ?_
 show Rch p e below T201 (mkF m 27 #[.val (.ref a5), .val (.ref sb), .val .null, .val (.ref vb), .val (.int kk)] []) _
 refine w_aloadN (pc' := 28) X201 hx hby djdk42m150_27 rfl rfl rfl ?_
 refine w_aloadN (pc' := 29) X201 hx hby djdk42m150_28 rfl rfl rfl ?_
 refine w_iconst (pc' := 30) (v := 0) X201 hx hby djdk42m150_29 rfl rfl ?_
 refine w_iload (pc' := 32) X201 hx hby djdk42m150_30 rfl rfl ?_
 obtain ⟨_, _, ⟨T214, L214, k214, n214⟩, -, X214, ⟨Lc214, hQ214, l214, y214, z214⟩, st214⟩ := Jvm.LawKit.callS X201 hx (y := (⟨"java/util/Arrays", "copyOfRange", "([BII)[B"⟩ : MethodName)) hown (mvT hZ (wi hw 138 rfl)) (mvT hZ (wi hw 139 rfl)) (mvT hZ (wi hw 140 rfl)) (mvT hZ (wi hw 141 rfl)) (by decide) (backOf (W := 1) (rm_cr l Z a0 hw [] vb kv 16 pre (Value.int (0 : Int32)) kk h201 n0 Z212 f207 (hz0) (hc) (hm) (hl) (hne)) hZ (wi hw 141 rfl) (wi hw 140 rfl) (by decide) (by decide)) (g := (mkF m 32 #[.val (.ref a5), .val (.ref sb), .val .null, .val (.ref vb), .val (.int kk)] [(.int kk), (.int 0), (.ref vb), (.ref a5)])) rfl (by rw [hml]; rfl) (argsL := [(.ref vb), (.int 0), (.int kk)]) (rest := [(.ref a5)]) (lenOf pd___BII__B rfl) rfl (by show 2 * 0 + _ ≤ _; exact Nat.le_of_eq rfl) (hb hby djdk42m150_32) (fun _ _ => ⟨rfl, e201, (by decide : 0 + 1 ≤ _), (by decide : 0 + 16 ≤ _)⟩)
 dsimp only [Pt.U, Pt.locs, Pt.cells, Pt.slots] at X214 l214 y214 z214 st214 hQ214
 subst l214 y214 z214
 obtain ⟨t_214, kt_214, rfl, NQ214, K214, pq214_0, fq214_0⟩ := hQ214
 have N215 := Fr.app N202 NQ214
 have ne216 := nlt f208.lt pq214_0
 have f225 := f208.keep K214
 have f226 := f209.keep K214 nin0
 have f227 := f210.keep K214 nin0
 have Kp229 : Keep h0 T214.heap [a5] := Kp213.trans K214 all0
 refine Rch.st (fun _ k => st214 _ k) ?_
 show Rch p e below T214 (mkF m 35 #[.val (.ref a5), .val (.ref sb), .val .null, .val (.ref vb), .val (.int kk)] [(.ref t_214), (.ref a5)]) _
 obtain ⟨T231, h231, X231, e231, W231, st231⟩ := putF X214 hx hZ hown (host := "") (Or.inl (wi hw 71 rfl)) Via.refl (rfl : T214.heap = T214.heap) f227 f225 (Or.inr ⟨(wi hw 9 rfl), rfl, hnm⟩) (wi hw 7 rfl) (ty := (.array .byte)) (by decide) rfl rfl (g := (mkF m 35 #[.val (.ref a5), .val (.ref sb), .val .null, .val (.ref vb), .val (.int kk)] [(.ref t_214), (.ref a5)])) rfl rfl (hb hby djdk42m150_35)
 have N232 := Fr.snoc X231 N215 ga
 have f239 := f226.other W231 (Or.inr (slot_ne (t := .byte) (t' := (.array .byte)) (Or.inr (wi hw 10 rfl)) (Or.inr (wi hw 9 rfl)) (by decide) (by decide) (by decide)))
 have f240 := f227.same W231
 have f241 := fq214_0.other W231 (Ne.symm ne216)
 have Kp244 : Keep h0 h231 [a5] := Kp229.wr W231 (Or.inl (List.mem_of_getElem? (i := 0) rfl))
 refine Rch.st (fun _ k => st231 _ k) ?_
 show Rch p e below T231 (mkF m 38 #[.val (.ref a5), .val (.ref sb), .val .null, .val (.ref vb), .val (.int kk)] []) _
 refine w_goto (pc' := 97) X231 hx hby djdk42m150_38 (by decide) ?_
 exact Rch.ret0 X231 hx Bd.returns (hb hby djdk42m150_97) (by rw [e231]; exact ⟨t_214, kt_214, rfl, N232, Kp244, (Nat.le_trans Kp213.1 pq214_0), f239, f240, f241⟩) (by decide) (by decide)

theorem djdk42m53_0 : decode jdk_42_method_53_code 0 = .ok (.aload_n 0, 1) := by decide +kernel
theorem djdk42m53_1 : decode jdk_42_method_53_code 1 = .ok (.aload_n 1, 1) := by decide +kernel
theorem djdk42m53_2 : decode jdk_42_method_53_code 2 = .ok (.aconst_null, 1) := by decide +kernel
theorem djdk42m53_3 : decode jdk_42_method_53_code 3 = .ok (.invokespecial 489, 3) := by decide +kernel
theorem djdk42m53_6 : decode jdk_42_method_53_code 6 = .ok (.return_, 1) := by decide +kernel
theorem ef_rm_SB (m : MethodId) (G1 : Int32) (a5 : Addr) (sb : Addr) (vb : Addr) (kv : ClassId) (kk : Int32) (pre : List Value)  : entryFrame m #[(.ref a5), (.ref sb)] 2 = mkF m 0 #[.val (.ref a5), .val (.ref sb)] [] := by  first | (simp [entryFrame, mkF, argsToLocals, Value.category, maxLocals]; done) | rfl
def Q_rm_SB (Z : State) (G1 : Int32) (a5 : Addr) (sb : Addr) (vb : Addr) (kv : ClassId) (kk : Int32) (pre : List Value) (h0 : Heap) (n0 : Nat) (v : Option Value) (h : Heap) (L : List Loc) : Prop := ∃ (t : Addr) (kt : ClassId), (v = none) ∧ (Fr n0 L) ∧ (Keep h0 h [a5]) ∧ (h0.size ≤ t) ∧ (Fld Z h a5 "java/lang/String" "coder" "B" (.int (0 : Int32))) ∧ (Fld Z h a5 "java/lang/String" "value" "[B" (.ref t)) ∧ (Arv Z h t kt .byte kk (own_take pre (Value.int (0 : Int32)) kk.toNatClampNeg) (.int (0 : Int32)))
theorem pd__Ljava_lang_AbstractStringBuilder_Ljava_lang_Void__V : parseMethodDescriptor "(Ljava/lang/AbstractStringBuilder;Ljava/lang/Void;)V" = some ⟨[(.object "java/lang/AbstractStringBuilder"), (.object "java/lang/Void")], none⟩ := by decide +kernel
set_option maxRecDepth 65536 in
set_option maxHeartbeats 40000000 in
theorem rm_SB (l : Launch) (Z : State) (a0 : Array Value) (hw : ∀ d ∈ tables_1, d.before a0 Z = true) (ws : List Jvm.Cond) (G1 : Int32) (a5 : Addr) (sb : Addr) (vb : Addr) (kv : ClassId) (kk : Int32) (pre : List Value) (h0 : Heap) (n0 : Nat) (Z0 : n0 ≤ h0.size) (O2 : Sta Z Z.heap "java/lang/String" "COMPACT_STRINGS" "Z" (.int G1)) (P5 : ¬ G1 = 0) (f2 : Exa Z h0 sb "java/lang/StringBuilder") (f3 : Fld Z h0 sb "java/lang/AbstractStringBuilder" "value" "[B" (.ref vb)) (f4 : Fld Z h0 sb "java/lang/AbstractStringBuilder" "coder" "B" (.int (0 : Int32))) (f5 : Fld Z h0 sb "java/lang/AbstractStringBuilder" "count" "I" (.int kk)) (f6 : Arv Z h0 vb kv .byte (16 : Int32) pre (Value.int (0 : Int32))) (f7 : Exa Z h0 a5 "java/lang/String") (f8 : Fld Z h0 a5 "java/lang/String" "coder" "B" (.int (0 : Int32))) (f9 : Fld Z h0 a5 "java/lang/String" "value" "[B" .null) (hz0 : ¬ kk < 0) (hc : kk.toNatClampNeg ≤ 16) (hm : own_min32 (16 : Int32) kk = kk) (hl : kk.toNatClampNeg ≤ (16 : Int32).toNatClampNeg) (hne : ¬ kk = (16 : Int32)) (ga : n0 ≤ a5) (q6 : sb ≠ a5) (q7 : vb ≠ a5) (Old0 : OldL Z n0 h0) :
    MetFree l (⟨"java/lang/String", "<init>", "(Ljava/lang/StringBuilder;)V"⟩ : MethodName) (head1 (Jvm.Cond.code (⟨"java/lang/String", "<init>", "(Ljava/lang/StringBuilder;)V"⟩ : MethodName) jdk_42_method_53_code 2 none :: ws) ({ frames := 4, cells := 1, slots := 16, locals := 65 } : Room)) (fun a U => a = #[(.ref a5), (.ref sb)] ∧ Z.Warmed39 U.vm ∧ U.heap = h0) (fun _ _ _ _ _ => True) (fun _ U o U' => ∃ v L, o = .returned v ∧ Q_rm_SB Z G1 a5 sb vb kv kk pre h0 n0 v U'.heap L ∧ FrameEnd U o U' L ({ frames := 4, cells := 1, slots := 16, locals := 65 } : Room).cells ({ frames := 4, cells := 1, slots := 16, locals := 65 } : Room).slots) := by
 refine MetFree.of_bodySF (plainFor_of_name pn_java_lang_String) hisR ?_
 intro p e s m args below meth c s₁ Bd hml0 hP hK
 obtain ⟨rfl, hZ, hh⟩ := hP
 have hx := Bd.exec
 have hby := Bd.bytes
 have hml : c.maxLocals = 2 := hml0
 have hown : s.vm.findClass "java/lang/String" = some m.cls := findClass_of_methodNamed Bd.named
 have hnm := (name_of_methodNamed Bd.named Bd.method).1
 have X0 : Stand p l e ({ frames := 4, cells := 1, slots := 16, locals := 65 } : Room) s m #[(.ref a5), (.ref sb)] below meth c s₁ [] 0 0 := Stand.of_body Bd
 have e0 : s₁.heap = h0 := by rw [← hh, Bd.state]; rfl
 have N0 := Fr.nil n0
 have K00 : Keep h0 h0 [a5] := Keep.refl _ _
 show Rch p e below s₁ (entryFrame m #[(.ref a5), (.ref sb)] 2) (FinP s (Q_rm_SB Z G1 a5 sb vb kv kk pre h0 n0) 1 16)
 refine Rch.cast (ef_rm_SB m G1 a5 sb vb kv kk pre) ?_
 show Rch p e below s₁ (mkF m 0 #[.val (.ref a5), .val (.ref sb)] []) _
 refine w_aloadN (pc' := 1) X0 hx hby djdk42m53_0 rfl rfl rfl ?_
 refine w_aloadN (pc' := 2) X0 hx hby djdk42m53_1 rfl rfl rfl ?_
 refine w_aconstNull (pc' := 3) X0 hx hby djdk42m53_2 rfl ?_
 obtain ⟨_, _, ⟨T245, L245, k245, n245⟩, -, X245, ⟨Lc245, hQ245, l245, y245, z245⟩, st245⟩ := X0.specialBack hx (y := (⟨"java/lang/String", "<init>", "(Ljava/lang/AbstractStringBuilder;Ljava/lang/Void;)V"⟩ : MethodName)) rfl hown (mvT hZ (wi hw 116 rfl)) (mvT hZ (wi hw 117 rfl)) (mvT hZ (wi hw 118 rfl)) (by decide) (backOf (W := 0) (rm_SA l Z a0 hw [] G1 a5 sb vb kv kk pre h0 n0 Z0 (O2) (P5) f2 f3 f4 f5 f6 f7 f8 f9 (hz0) (hc) (hm) (hl) (hne) (ga) (q6) (q7) Old0) hZ (wi hw 118 rfl) (wi hw 6 rfl) (by decide) (by decide)) (g := (mkF m 3 #[.val (.ref a5), .val (.ref sb)] [.null, (.ref sb), (.ref a5)])) rfl (by rw [hml]; rfl) (Steps.refl _) (a := a5) (argsL := [(.ref sb), .null]) (rest := []) (lenOf pd__Ljava_lang_AbstractStringBuilder_Ljava_lang_Void__V rfl) rfl (by show 2 * 0 + _ ≤ _; exact Nat.le_of_eq rfl) (hb hby djdk42m53_3) (fun _ _ => ⟨rfl, e0, (by decide : 0 + 1 ≤ _), (by decide : 0 + 16 ≤ _)⟩)
 dsimp only [Pt.U, Pt.locs, Pt.cells, Pt.slots] at X245 l245 y245 z245 st245 hQ245
 subst l245 y245 z245
 obtain ⟨t_245, kt_245, rfl, NQ245, K245, pq245_0, fq245_0, fq245_1, fq245_2⟩ := hQ245
 have N246 := Fr.app N0 NQ245
 have Kp258 : Keep h0 T245.heap [a5] := K00.trans K245 (allS (Or.inl (List.mem_of_getElem? (i := 0) rfl)) all0)
 refine Rch.st (fun _ k => st245.trans k) ?_
 show Rch p e below T245 (mkF m 6 #[.val (.ref a5), .val (.ref sb)] []) _
 exact Rch.ret0 X245 hx Bd.returns (hb hby djdk42m53_6) (by rw [(rfl : T245.heap = T245.heap)]; exact ⟨t_245, kt_245, rfl, N246, Kp258, (Nat.le_trans K00.1 pq245_0), fq245_0, fq245_1, fq245_2⟩) (by decide) (by decide)

theorem djdk67m42_0 : decode jdk_67_method_42_code 0 = .ok (.new 18, 3) := by decide +kernel
theorem djdk67m42_3 : decode jdk_67_method_42_code 3 = .ok (.dup, 1) := by decide +kernel
theorem djdk67m42_4 : decode jdk_67_method_42_code 4 = .ok (.aload_n 0, 1) := by decide +kernel
theorem djdk67m42_5 : decode jdk_67_method_42_code 5 = .ok (.invokespecial 137, 3) := by decide +kernel
theorem djdk67m42_8 : decode jdk_67_method_42_code 8 = .ok (.areturn, 1) := by decide +kernel
theorem ef_rm_ts (m : MethodId) (G1 : Int32) (sb : Addr) (vb : Addr) (kv : ClassId) (kk : Int32) (pre : List Value)  : entryFrame m #[(.ref sb)] 1 = mkF m 0 #[.val (.ref sb)] [] := by  first | (simp [entryFrame, mkF, argsToLocals, Value.category, maxLocals]; done) | rfl
def Q_rm_ts (Z : State) (G1 : Int32) (sb : Addr) (vb : Addr) (kv : ClassId) (kk : Int32) (pre : List Value) (h0 : Heap) (n0 : Nat) (v : Option Value) (h : Heap) (L : List Loc) : Prop := ∃ (ra : Addr) (t : Addr) (kt : ClassId), (v = some (.ref ra)) ∧ (Fr n0 L) ∧ (Keep h0 h []) ∧ (h0.size ≤ ra) ∧ (h0.size ≤ t) ∧ (Exa Z h ra "java/lang/String") ∧ (Fld Z h ra "java/lang/String" "coder" "B" (.int (0 : Int32))) ∧ (Fld Z h ra "java/lang/String" "value" "[B" (.ref t)) ∧ (Arv Z h t kt .byte kk (own_take pre (Value.int (0 : Int32)) kk.toNatClampNeg) (.int (0 : Int32)))
theorem pd__Ljava_lang_StringBuilder__V : parseMethodDescriptor "(Ljava/lang/StringBuilder;)V" = some ⟨[(.object "java/lang/StringBuilder")], none⟩ := by decide +kernel
set_option maxRecDepth 65536 in
set_option maxHeartbeats 40000000 in
theorem rm_ts (l : Launch) (Z : State) (a0 : Array Value) (hw : ∀ d ∈ tables_1, d.before a0 Z = true) (ws : List Jvm.Cond) (G1 : Int32) (sb : Addr) (vb : Addr) (kv : ClassId) (kk : Int32) (pre : List Value) (h0 : Heap) (n0 : Nat) (Z0 : n0 ≤ h0.size) (O2 : Sta Z Z.heap "java/lang/String" "COMPACT_STRINGS" "Z" (.int G1)) (P5 : ¬ G1 = 0) (f2 : Exa Z h0 sb "java/lang/StringBuilder") (f3 : Fld Z h0 sb "java/lang/AbstractStringBuilder" "value" "[B" (.ref vb)) (f4 : Fld Z h0 sb "java/lang/AbstractStringBuilder" "coder" "B" (.int (0 : Int32))) (f5 : Fld Z h0 sb "java/lang/AbstractStringBuilder" "count" "I" (.int kk)) (f6 : Arv Z h0 vb kv .byte (16 : Int32) pre (Value.int (0 : Int32))) (hz0 : ¬ kk < 0) (hc : kk.toNatClampNeg ≤ 16) (hm : own_min32 (16 : Int32) kk = kk) (hl : kk.toNatClampNeg ≤ (16 : Int32).toNatClampNeg) (hne : ¬ kk = (16 : Int32)) (Old0 : OldL Z n0 h0) :
    MetFree l (⟨"java/lang/StringBuilder", "toString", "()Ljava/lang/String;"⟩ : MethodName) (head1 (Jvm.Cond.code (⟨"java/lang/StringBuilder", "toString", "()Ljava/lang/String;"⟩ : MethodName) jdk_67_method_42_code 1 (some (.object "java/lang/String")) :: ws) ({ frames := 5, cells := 2, slots := 20, locals := 79 } : Room)) (fun a U => a = #[(.ref sb)] ∧ Z.Warmed39 U.vm ∧ U.heap = h0) (fun _ _ _ _ _ => True) (fun _ U o U' => ∃ v L, o = .returned v ∧ Q_rm_ts Z G1 sb vb kv kk pre h0 n0 v U'.heap L ∧ FrameEnd U o U' L ({ frames := 5, cells := 2, slots := 20, locals := 79 } : Room).cells ({ frames := 5, cells := 2, slots := 20, locals := 79 } : Room).slots) := by
 refine MetFree.of_bodySF (plainFor_of_name pn_java_lang_StringBuilder) hisR ?_
 intro p e s m args below meth c s₁ Bd hml0 hP hK
 obtain ⟨rfl, hZ, hh⟩ := hP
 have hx := Bd.exec
 have hby := Bd.bytes
 have hml : c.maxLocals = 1 := hml0
 have hown : s.vm.findClass "java/lang/StringBuilder" = some m.cls := findClass_of_methodNamed Bd.named
 have hnm := (name_of_methodNamed Bd.named Bd.method).1
 have X0 : Stand p l e ({ frames := 5, cells := 2, slots := 20, locals := 79 } : Room) s m #[(.ref sb)] below meth c s₁ [] 0 0 := Stand.of_body Bd
 have e0 : s₁.heap = h0 := by rw [← hh, Bd.state]; rfl
 have N0 := Fr.nil n0
 have K00 : Keep h0 h0 [] := Keep.refl _ _
 show Rch p e below s₁ (entryFrame m #[(.ref sb)] 1) (FinP s (Q_rm_ts Z G1 sb vb kv kk pre h0 n0) 2 20)
 refine Rch.cast (ef_rm_ts m G1 sb vb kv kk pre) ?_
 show Rch p e below s₁ (mkF m 0 #[.val (.ref sb)] []) _
 obtain ⟨T260, h260, X260, e260, E260, A260, D260, -, st260⟩ := newO X0 hx hZ hown (wi hw 111 rfl) (wi hw 7 rfl) (wi hw 6 rfl) e0 (g := (mkF m 0 #[.val (.ref sb)] [])) rfl (hb hby djdk67m42_0) (by decide) (by decide)
 obtain ⟨a260, g260⟩ : ∃ z, z = h0.size := ⟨_, rfl⟩
 rw [← g260] at A260 D260 st260
 have ne261 : sb ≠ a260 := by rw [g260]; exact Nat.ne_of_lt f2.lt
 have ne262 : vb ≠ a260 := by rw [g260]; exact Nat.ne_of_lt f6.lt
 have ge263 : n0 ≤ a260 := Nat.le_trans Z0 (Nat.le_of_eq g260.symm)
 have f265 := f2.ext E260
 have f266 := f3.ext E260
 have f267 := f4.ext E260
 have f268 := f5.ext E260
 have f269 := f6.ext E260
 have Old270 := Old0.ext E260
 have Z271 := Nat.le_trans Z0 E260.1
 have Kp272 : Keep h0 h260 [] := K00.ext E260
 have f273 : Fld Z h260 a260 "java/lang/String" "coder" "B" (.int (0 : Int32)) := D260 (Or.inr (wi hw 10 rfl)) (ty := .byte) (by decide)
 have f274 : Fld Z h260 a260 "java/lang/String" "value" "[B" .null := D260 (Or.inr (wi hw 9 rfl)) (ty := (.array .byte)) (by decide)
 refine Rch.st (fun _ k => st260 _ k) ?_
 show Rch p e below T260 (mkF m 3 #[.val (.ref sb)] [(.ref a260)]) _
 refine w_dup (pc' := 4) X260 hx hby djdk67m42_3 rfl rfl ?_
 refine w_aloadN (pc' := 5) X260 hx hby djdk67m42_4 rfl rfl rfl ?_
 obtain ⟨_, _, ⟨T275, L275, k275, n275⟩, -, X275, ⟨Lc275, hQ275, l275, y275, z275⟩, st275⟩ := X260.specialBack hx (y := (⟨"java/lang/String", "<init>", "(Ljava/lang/StringBuilder;)V"⟩ : MethodName)) rfl hown (mvT hZ (wi hw 112 rfl)) (mvT hZ (wi hw 113 rfl)) (mvT hZ (wi hw 115 rfl)) (by decide) (backOf (W := 1) (rm_SB l Z a0 hw [] G1 a260 sb vb kv kk pre h260 n0 Z271 (O2) (P5) f265 f266 f267 f268 f269 A260 f273 f274 (hz0) (hc) (hm) (hl) (hne) (ge263) (ne261) (ne262) Old270) hZ (wi hw 115 rfl) (wi hw 6 rfl) (by decide) (by decide)) (g := (mkF m 5 #[.val (.ref sb)] [(.ref sb), (.ref a260), (.ref a260)])) rfl (by rw [hml]; rfl) (Steps.refl _) (a := a260) (argsL := [(.ref sb)]) (rest := [(.ref a260)]) (lenOf pd__Ljava_lang_StringBuilder__V rfl) rfl (by show 2 * 0 + _ ≤ _; exact Nat.le_of_eq rfl) (hb hby djdk67m42_5) (fun _ _ => ⟨rfl, e260, (by decide : 1 + 1 ≤ _), (by decide : 4 + 16 ≤ _)⟩)
 dsimp only [Pt.U, Pt.locs, Pt.cells, Pt.slots] at X275 l275 y275 z275 st275 hQ275
 subst l275 y275 z275
 obtain ⟨t_275, kt_275, rfl, NQ275, K275, pq275_0, fq275_0, fq275_1, fq275_2⟩ := hQ275
 have N276 := Fr.app N0 NQ275
 have f286 := A260.keep K275
 have Kp288 : Keep h0 T275.heap [] := Kp272.trans K275 (allS (Or.inr (Nat.le_trans K00.1 (Nat.le_of_eq g260.symm))) all0)
 refine Rch.st (fun _ k => st275.trans k) ?_
 show Rch p e below T275 (mkF m 8 #[.val (.ref sb)] [(.ref a260)]) _
 exact Rch.retV X275 hx Bd.returns rfl (Or.inr (Or.inr (Or.inr (Or.inr ⟨rfl, rfl, rfl⟩)))) (hb hby djdk67m42_8) (by rw [(rfl : T275.heap = T275.heap)]; exact ⟨a260, t_275, kt_275, rfl, N276, Kp288, (Nat.le_trans K00.1 (Nat.le_of_eq g260.symm)), (Nat.le_trans Kp272.1 pq275_0), f286, fq275_0, fq275_1, fq275_2⟩) (by decide) (by decide)

theorem djdk52m21_0 : decode jdk_52_method_21_code 0 = .ok (.iconst 0, 1) := by decide +kernel
theorem djdk52m21_1 : decode jdk_52_method_21_code 1 = .ok (.istore 5, 2) := by decide +kernel
theorem djdk52m21_3 : decode jdk_52_method_21_code 3 = .ok (.iload 5, 2) := by decide +kernel
theorem djdk52m21_5 : decode jdk_52_method_21_code 5 = .ok (.iload 4, 2) := by decide +kernel
theorem djdk52m21_7 : decode jdk_52_method_21_code 7 = .ok (.if_icmp .ge 37, 3) := by decide +kernel
theorem djdk52m21_10 : decode jdk_52_method_21_code 10 = .ok (.aload_n 0, 1) := by decide +kernel
theorem djdk52m21_11 : decode jdk_52_method_21_code 11 = .ok (.iload_n 1, 1) := by decide +kernel
theorem djdk52m21_12 : decode jdk_52_method_21_code 12 = .ok (.caload, 1) := by decide +kernel
theorem djdk52m21_13 : decode jdk_52_method_21_code 13 = .ok (.istore 6, 2) := by decide +kernel
theorem djdk52m21_15 : decode jdk_52_method_21_code 15 = .ok (.iload 6, 2) := by decide +kernel
theorem djdk52m21_17 : decode jdk_52_method_21_code 17 = .ok (.sipush 255, 3) := by decide +kernel
theorem djdk52m21_20 : decode jdk_52_method_21_code 20 = .ok (.if_icmp .le 6, 3) := by decide +kernel
theorem djdk52m21_26 : decode jdk_52_method_21_code 26 = .ok (.aload_n 2, 1) := by decide +kernel
theorem djdk52m21_27 : decode jdk_52_method_21_code 27 = .ok (.iload_n 3, 1) := by decide +kernel
theorem djdk52m21_28 : decode jdk_52_method_21_code 28 = .ok (.iload 6, 2) := by decide +kernel
theorem djdk52m21_30 : decode jdk_52_method_21_code 30 = .ok (.i2b, 1) := by decide +kernel
theorem djdk52m21_31 : decode jdk_52_method_21_code 31 = .ok (.bastore, 1) := by decide +kernel
theorem djdk52m21_32 : decode jdk_52_method_21_code 32 = .ok (.iinc 1 1, 3) := by decide +kernel
theorem djdk52m21_35 : decode jdk_52_method_21_code 35 = .ok (.iinc 3 1, 3) := by decide +kernel
theorem djdk52m21_38 : decode jdk_52_method_21_code 38 = .ok (.iinc 5 1, 3) := by decide +kernel
theorem djdk52m21_41 : decode jdk_52_method_21_code 41 = .ok (.goto (-38), 3) := by decide +kernel
theorem djdk52m21_44 : decode jdk_52_method_21_code 44 = .ok (.iload 4, 2) := by decide +kernel
theorem djdk52m21_46 : decode jdk_52_method_21_code 46 = .ok (.ireturn, 1) := by decide +kernel
theorem ef_rm_cmp5_2 (m : MethodId) (ca : Addr) (kc : ClassId) (bd : Addr) (kd : ClassId) (cc0 : Int32) (cc1 : Int32)  : entryFrame m #[(.ref ca), (.int (0 : Int32)), (.ref bd), (.int (0 : Int32)), (.int (2 : Int32))] 7 = mkF m 0 #[.val (.ref ca), .val (.int (0 : Int32)), .val (.ref bd), .val (.int (0 : Int32)), .val (.int (2 : Int32)), .unset, .unset] [] := by  first | (simp [entryFrame, mkF, argsToLocals, Value.category, maxLocals]; done) | rfl
def Q_rm_cmp5_2 (Z : State) (ca : Addr) (kc : ClassId) (bd : Addr) (kd : ClassId) (cc0 : Int32) (cc1 : Int32) (h0 : Heap) (n0 : Nat) (v : Option Value) (h : Heap) (L : List Loc) : Prop := (v = some (.int (2 : Int32))) ∧ (Fr n0 L) ∧ (Keep h0 h [bd]) ∧ (Arv Z h bd kd .byte (2 : Int32) [(.int (own_by cc0)), (.int (own_by cc1))] (.int (0 : Int32)))
set_option maxRecDepth 65536 in
set_option maxHeartbeats 40000000 in
theorem rm_cmp5_2 (l : Launch) (Z : State) (a0 : Array Value) (hw : ∀ d ∈ tables_1, d.before a0 Z = true) (ws : List Jvm.Cond) (ca : Addr) (kc : ClassId) (bd : Addr) (kd : ClassId) (cc0 : Int32) (cc1 : Int32) (h0 : Heap) (n0 : Nat) (Z0 : n0 ≤ h0.size) (f0 : Arv Z h0 ca kc .char (2 : Int32) [(.int cc0), (.int cc1)] (.int (0 : Int32))) (f1 : Arv Z h0 bd kd .byte (2 : Int32) [(.int (0 : Int32)), (.int (0 : Int32))] (.int (0 : Int32))) (gd : n0 ≤ bd) (ncd : ca ≠ bd) (hg0 : ¬ (255 : Int32) < cc0) (hg1 : ¬ (255 : Int32) < cc1) :
    MetFree l (⟨"java/lang/StringUTF16", "compress", "([CI[BII)I"⟩ : MethodName) (head1 (Jvm.Cond.code (⟨"java/lang/StringUTF16", "compress", "([CI[BII)I"⟩ : MethodName) jdk_52_method_21_code 7 (some .int) :: ws) ({ frames := 0, cells := 0, slots := 0, locals := 0 } : Room)) (fun a U => a = #[(.ref ca), (.int (0 : Int32)), (.ref bd), (.int (0 : Int32)), (.int (2 : Int32))] ∧ Z.Warmed39 U.vm ∧ U.heap = h0) (fun _ _ _ _ _ => True) (fun _ U o U' => ∃ v L, o = .returned v ∧ Q_rm_cmp5_2 Z ca kc bd kd cc0 cc1 h0 n0 v U'.heap L ∧ FrameEnd U o U' L ({ frames := 0, cells := 0, slots := 0, locals := 0 } : Room).cells ({ frames := 0, cells := 0, slots := 0, locals := 0 } : Room).slots) := by
 refine MetFree.of_bodySF (plainFor_of_name pn_java_lang_StringUTF16) hisR ?_
 intro p e s m args below meth c s₁ Bd hml0 hP hK
 obtain ⟨rfl, hZ, hh⟩ := hP
 have hx := Bd.exec
 have hby := Bd.bytes
 have hml : c.maxLocals = 7 := hml0
 have hown : s.vm.findClass "java/lang/StringUTF16" = some m.cls := findClass_of_methodNamed Bd.named
 have hnm := (name_of_methodNamed Bd.named Bd.method).1
 have X0 : Stand p l e ({ frames := 0, cells := 0, slots := 0, locals := 0 } : Room) s m #[(.ref ca), (.int (0 : Int32)), (.ref bd), (.int (0 : Int32)), (.int (2 : Int32))] below meth c s₁ [] 0 0 := Stand.of_body Bd
 have e0 : s₁.heap = h0 := by rw [← hh, Bd.state]; rfl
 have N0 := Fr.nil n0
 have K00 : Keep h0 h0 [bd] := Keep.refl _ _
 show Rch p e below s₁ (entryFrame m #[(.ref ca), (.int (0 : Int32)), (.ref bd), (.int (0 : Int32)), (.int (2 : Int32))] 7) (FinP s (Q_rm_cmp5_2 Z ca kc bd kd cc0 cc1 h0 n0) 0 0)
 refine Rch.cast (ef_rm_cmp5_2 m ca kc bd kd cc0 cc1) ?_
 show Rch p e below s₁ (mkF m 0 #[.val (.ref ca), .val (.int 0), .val (.ref bd), .val (.int 0), .val (.int 2), .unset, .unset] []) _
 refine w_iconst (pc' := 1) (v := 0) X0 hx hby djdk52m21_0 rfl rfl ?_
 refine w_istore (pc' := 3) (l' := #[.val (.ref ca), .val (.int 0), .val (.ref bd), .val (.int 0), .val (.int 2), .val (.int 0), .unset]) X0 hx hby djdk52m21_1 rfl rfl ?_
 refine w_iload (pc' := 5) X0 hx hby djdk52m21_3 rfl rfl ?_
 refine w_iload (pc' := 7) X0 hx hby djdk52m21_5 rfl rfl ?_
 refine w_icmpNo (pc' := 10) X0 hx hby djdk52m21_7 (XT.ii_ge_f (by decide)) rfl ?_
 refine w_aloadN (pc' := 11) X0 hx hby djdk52m21_10 rfl rfl rfl ?_
 refine w_iloadN (pc' := 12) X0 hx hby djdk52m21_11 rfl rfl ?_
 refine Rch.st (fun _ k => own_ldC X0 hx hZ e0 f0 (j := (0 : Int32)) ⟨by decide, by decide⟩ (by rfl) rfl rfl (hb hby djdk52m21_12) k) ?_
 show Rch p e below s₁ (mkF m 13 #[.val (.ref ca), .val (.int 0), .val (.ref bd), .val (.int 0), .val (.int 2), .val (.int 0), .unset] [(.int cc0)]) _
 refine w_istore (pc' := 15) (l' := #[.val (.ref ca), .val (.int 0), .val (.ref bd), .val (.int 0), .val (.int 2), .val (.int 0), .val (.int cc0)]) X0 hx hby djdk52m21_13 rfl rfl ?_
 refine w_iload (pc' := 17) X0 hx hby djdk52m21_15 rfl rfl ?_
 refine w_sipush (pc' := 20) (v := 255) X0 hx hby djdk52m21_17 rfl rfl ?_
 refine w_icmpYes (pc' := 26) X0 hx hby djdk52m21_20 (XT.ii_le_t (hg0)) (by decide) ?_
 refine w_aloadN (pc' := 27) X0 hx hby djdk52m21_26 rfl rfl rfl ?_
 refine w_iloadN (pc' := 28) X0 hx hby djdk52m21_27 rfl rfl ?_
 refine w_iload (pc' := 30) X0 hx hby djdk52m21_28 rfl rfl ?_
 refine w_i2b (pc' := 31) X0 hx hby djdk52m21_30 rfl ?_
 obtain ⟨T290, h290, X290, e290, W290, V290, st290⟩ := own_stB X0 hx hZ e0 f1 (j := (0 : Int32)) ⟨by decide, by decide⟩ 0 (by decide) (by decide : 0 < 2) (g := (mkF m 31 #[.val (.ref ca), .val (.int 0), .val (.ref bd), .val (.int 0), .val (.int 2), .val (.int 0), .val (.int cc0)] [(.int (cc0).toInt8.toInt32), (.int 0), (.ref bd)])) rfl rfl (hb hby djdk52m21_31)
 have N291 := Fr.snoc X290 N0 gd
 have f292 := f0.other W290 ncd
 have Kp294 : Keep h0 h290 [bd] := K00.wr W290 (Or.inl (List.mem_of_getElem? (i := 0) rfl))
 have f295 : Arv Z h290 bd kd .byte (2 : Int32) [(.int ((cc0).toInt8.toInt32).toInt8.toInt32), (.int (0 : Int32))] (.int (0 : Int32)) := V290
 refine Rch.st (fun _ k => st290 _ k) ?_
 show Rch p e below T290 (mkF m 32 #[.val (.ref ca), .val (.int 0), .val (.ref bd), .val (.int 0), .val (.int 2), .val (.int 0), .val (.int cc0)] []) _
 refine w_iinc (pc' := 35) (w := (1 : Int32)) (l' := #[.val (.ref ca), .val (.int (1 : Int32)), .val (.ref bd), .val (.int (0 : Int32)), .val (.int (2 : Int32)), .val (.int (0 : Int32)), .val (.int cc0)]) X290 hx hby djdk52m21_32 rfl (by decide) rfl rfl ?_
 refine w_iinc (pc' := 38) (w := (1 : Int32)) (l' := #[.val (.ref ca), .val (.int (1 : Int32)), .val (.ref bd), .val (.int (1 : Int32)), .val (.int (2 : Int32)), .val (.int (0 : Int32)), .val (.int cc0)]) X290 hx hby djdk52m21_35 rfl (by decide) rfl rfl ?_
 refine w_iinc (pc' := 41) (w := (1 : Int32)) (l' := #[.val (.ref ca), .val (.int (1 : Int32)), .val (.ref bd), .val (.int (1 : Int32)), .val (.int (2 : Int32)), .val (.int (1 : Int32)), .val (.int cc0)]) X290 hx hby djdk52m21_38 rfl (by decide) rfl rfl ?_
 refine w_goto (pc' := 3) X290 hx hby djdk52m21_41 (by decide) ?_
 refine w_iload (pc' := 5) X290 hx hby djdk52m21_3 rfl rfl ?_
 refine w_iload (pc' := 7) X290 hx hby djdk52m21_5 rfl rfl ?_
 refine w_icmpNo (pc' := 10) X290 hx hby djdk52m21_7 (XT.ii_ge_f (by decide)) rfl ?_
 refine w_aloadN (pc' := 11) X290 hx hby djdk52m21_10 rfl rfl rfl ?_
 refine w_iloadN (pc' := 12) X290 hx hby djdk52m21_11 rfl rfl ?_
 refine Rch.st (fun _ k => own_ldC X290 hx hZ e290 f292 (j := (1 : Int32)) ⟨by decide, by decide⟩ (by rfl) rfl rfl (hb hby djdk52m21_12) k) ?_
 show Rch p e below T290 (mkF m 13 #[.val (.ref ca), .val (.int 1), .val (.ref bd), .val (.int 1), .val (.int 2), .val (.int 1), .val (.int cc0)] [(.int cc1)]) _
 refine w_istore (pc' := 15) (l' := #[.val (.ref ca), .val (.int 1), .val (.ref bd), .val (.int 1), .val (.int 2), .val (.int 1), .val (.int cc1)]) X290 hx hby djdk52m21_13 rfl rfl ?_
 refine w_iload (pc' := 17) X290 hx hby djdk52m21_15 rfl rfl ?_
 refine w_sipush (pc' := 20) (v := 255) X290 hx hby djdk52m21_17 rfl rfl ?_
 refine w_icmpYes (pc' := 26) X290 hx hby djdk52m21_20 (XT.ii_le_t (hg1)) (by decide) ?_
 refine w_aloadN (pc' := 27) X290 hx hby djdk52m21_26 rfl rfl rfl ?_
 refine w_iloadN (pc' := 28) X290 hx hby djdk52m21_27 rfl rfl ?_
 refine w_iload (pc' := 30) X290 hx hby djdk52m21_28 rfl rfl ?_
 refine w_i2b (pc' := 31) X290 hx hby djdk52m21_30 rfl ?_
 obtain ⟨T296, h296, X296, e296, W296, V296, st296⟩ := own_stB X290 hx hZ e290 f295 (j := (1 : Int32)) ⟨by decide, by decide⟩ 1 (by decide) (by decide : 1 < 2) (g := (mkF m 31 #[.val (.ref ca), .val (.int 1), .val (.ref bd), .val (.int 1), .val (.int 2), .val (.int 1), .val (.int cc1)] [(.int (cc1).toInt8.toInt32), (.int 1), (.ref bd)])) rfl rfl (hb hby djdk52m21_31)
 have N297 := Fr.snoc X296 N291 gd
 have Kp300 : Keep h0 h296 [bd] := Kp294.wr W296 (Or.inl (List.mem_of_getElem? (i := 0) rfl))
 have f301 : Arv Z h296 bd kd .byte (2 : Int32) [(.int ((cc0).toInt8.toInt32).toInt8.toInt32), (.int ((cc1).toInt8.toInt32).toInt8.toInt32)] (.int (0 : Int32)) := V296
 refine Rch.st (fun _ k => st296 _ k) ?_
 show Rch p e below T296 (mkF m 32 #[.val (.ref ca), .val (.int 1), .val (.ref bd), .val (.int 1), .val (.int 2), .val (.int 1), .val (.int cc1)] []) _
 refine w_iinc (pc' := 35) (w := (2 : Int32)) (l' := #[.val (.ref ca), .val (.int (2 : Int32)), .val (.ref bd), .val (.int (1 : Int32)), .val (.int (2 : Int32)), .val (.int (1 : Int32)), .val (.int cc1)]) X296 hx hby djdk52m21_32 rfl (by decide) rfl rfl ?_
 refine w_iinc (pc' := 38) (w := (2 : Int32)) (l' := #[.val (.ref ca), .val (.int (2 : Int32)), .val (.ref bd), .val (.int (2 : Int32)), .val (.int (2 : Int32)), .val (.int (1 : Int32)), .val (.int cc1)]) X296 hx hby djdk52m21_35 rfl (by decide) rfl rfl ?_
 refine w_iinc (pc' := 41) (w := (2 : Int32)) (l' := #[.val (.ref ca), .val (.int (2 : Int32)), .val (.ref bd), .val (.int (2 : Int32)), .val (.int (2 : Int32)), .val (.int (2 : Int32)), .val (.int cc1)]) X296 hx hby djdk52m21_38 rfl (by decide) rfl rfl ?_
 refine w_goto (pc' := 3) X296 hx hby djdk52m21_41 (by decide) ?_
 refine w_iload (pc' := 5) X296 hx hby djdk52m21_3 rfl rfl ?_
 refine w_iload (pc' := 7) X296 hx hby djdk52m21_5 rfl rfl ?_
 refine w_icmpYes (pc' := 44) X296 hx hby djdk52m21_7 (XT.ii_ge_t (by decide)) (by decide) ?_
 refine w_iload (pc' := 46) X296 hx hby djdk52m21_44 rfl rfl ?_
 exact Rch.retV X296 hx Bd.returns rfl (Or.inl ⟨rfl, by simp, _, rfl⟩) (hb hby djdk52m21_46) (by rw [e296]; exact ⟨rfl, N297, Kp300, f301⟩) (by decide) (by decide)

theorem djdk52m16_0 : decode jdk_52_method_16_code 0 = .ok (.iload_n 2, 1) := by decide +kernel
theorem djdk52m16_1 : decode jdk_52_method_16_code 1 = .ok (.newarray .byte, 2) := by decide +kernel
theorem djdk52m16_3 : decode jdk_52_method_16_code 3 = .ok (.astore_n 3, 1) := by decide +kernel
theorem djdk52m16_4 : decode jdk_52_method_16_code 4 = .ok (.aload_n 0, 1) := by decide +kernel
theorem djdk52m16_5 : decode jdk_52_method_16_code 5 = .ok (.iload_n 1, 1) := by decide +kernel
theorem djdk52m16_6 : decode jdk_52_method_16_code 6 = .ok (.aload_n 3, 1) := by decide +kernel
theorem djdk52m16_7 : decode jdk_52_method_16_code 7 = .ok (.iconst 0, 1) := by decide +kernel
theorem djdk52m16_8 : decode jdk_52_method_16_code 8 = .ok (.iload_n 2, 1) := by decide +kernel
theorem djdk52m16_9 : decode jdk_52_method_16_code 9 = .ok (.invokestatic 115, 3) := by decide +kernel
theorem djdk52m16_12 : decode jdk_52_method_16_code 12 = .ok (.istore 4, 2) := by decide +kernel
theorem djdk52m16_14 : decode jdk_52_method_16_code 14 = .ok (.iload 4, 2) := by decide +kernel
theorem djdk52m16_16 : decode jdk_52_method_16_code 16 = .ok (.iload_n 2, 1) := by decide +kernel
theorem djdk52m16_17 : decode jdk_52_method_16_code 17 = .ok (.if_icmp .eq 40, 3) := by decide +kernel
theorem djdk52m16_57 : decode jdk_52_method_16_code 57 = .ok (.aload_n 3, 1) := by decide +kernel
theorem djdk52m16_58 : decode jdk_52_method_16_code 58 = .ok (.areturn, 1) := by decide +kernel
theorem ef_rm_cmp3_2 (m : MethodId) (ca : Addr) (kc : ClassId) (cc0 : Int32) (cc1 : Int32)  : entryFrame m #[(.ref ca), (.int (0 : Int32)), (.int (2 : Int32))] 6 = mkF m 0 #[.val (.ref ca), .val (.int (0 : Int32)), .val (.int (2 : Int32)), .unset, .unset, .unset] [] := by  first | (simp [entryFrame, mkF, argsToLocals, Value.category, maxLocals]; done) | rfl
def Q_rm_cmp3_2 (Z : State) (ca : Addr) (kc : ClassId) (cc0 : Int32) (cc1 : Int32) (h0 : Heap) (n0 : Nat) (v : Option Value) (h : Heap) (L : List Loc) : Prop := ∃ (t : Addr) (kt : ClassId), (v = some (.ref t)) ∧ (Fr n0 L) ∧ (Keep h0 h []) ∧ (h0.size ≤ t) ∧ (Arv Z h t kt .byte (2 : Int32) [(.int (own_by cc0)), (.int (own_by cc1))] (.int (0 : Int32)))
theorem pd___CI_BII_I : parseMethodDescriptor "([CI[BII)I" = some ⟨[(.array .char), .int, (.array .byte), .int, .int], (some .int)⟩ := by decide +kernel
set_option maxRecDepth 65536 in
set_option maxHeartbeats 40000000 in
theorem rm_cmp3_2 (l : Launch) (Z : State) (a0 : Array Value) (hw : ∀ d ∈ tables_1, d.before a0 Z = true) (ws : List Jvm.Cond) (ca : Addr) (kc : ClassId) (cc0 : Int32) (cc1 : Int32) (h0 : Heap) (n0 : Nat) (Z0 : n0 ≤ h0.size) (f0 : Arv Z h0 ca kc .char (2 : Int32) [(.int cc0), (.int cc1)] (.int (0 : Int32))) (hg0 : ¬ (255 : Int32) < cc0) (hg1 : ¬ (255 : Int32) < cc1) :
    MetFree l (⟨"java/lang/StringUTF16", "compress", "([CII)[B"⟩ : MethodName) (head1 (Jvm.Cond.code (⟨"java/lang/StringUTF16", "compress", "([CII)[B"⟩ : MethodName) jdk_52_method_16_code 6 (some (.array .byte)) :: ws) ({ frames := 1, cells := 1, slots := 2, locals := 18 } : Room)) (fun a U => a = #[(.ref ca), (.int (0 : Int32)), (.int (2 : Int32))] ∧ Z.Warmed39 U.vm ∧ U.heap = h0) (fun _ _ _ _ _ => True) (fun _ U o U' => ∃ v L, o = .returned v ∧ Q_rm_cmp3_2 Z ca kc cc0 cc1 h0 n0 v U'.heap L ∧ FrameEnd U o U' L ({ frames := 1, cells := 1, slots := 2, locals := 18 } : Room).cells ({ frames := 1, cells := 1, slots := 2, locals := 18 } : Room).slots) := by
 refine MetFree.of_bodySF (plainFor_of_name pn_java_lang_StringUTF16) hisR ?_
 intro p e s m args below meth c s₁ Bd hml0 hP hK
 obtain ⟨rfl, hZ, hh⟩ := hP
 have hx := Bd.exec
 have hby := Bd.bytes
 have hml : c.maxLocals = 6 := hml0
 have hown : s.vm.findClass "java/lang/StringUTF16" = some m.cls := findClass_of_methodNamed Bd.named
 have hnm := (name_of_methodNamed Bd.named Bd.method).1
 have X0 : Stand p l e ({ frames := 1, cells := 1, slots := 2, locals := 18 } : Room) s m #[(.ref ca), (.int (0 : Int32)), (.int (2 : Int32))] below meth c s₁ [] 0 0 := Stand.of_body Bd
 have e0 : s₁.heap = h0 := by rw [← hh, Bd.state]; rfl
 have N0 := Fr.nil n0
 have K00 : Keep h0 h0 [] := Keep.refl _ _
 show Rch p e below s₁ (entryFrame m #[(.ref ca), (.int (0 : Int32)), (.int (2 : Int32))] 6) (FinP s (Q_rm_cmp3_2 Z ca kc cc0 cc1 h0 n0) 1 2)
 refine Rch.cast (ef_rm_cmp3_2 m ca kc cc0 cc1) ?_
 show Rch p e below s₁ (mkF m 0 #[.val (.ref ca), .val (.int 0), .val (.int 2), .unset, .unset, .unset] []) _
 refine w_iloadN (pc' := 1) X0 hx hby djdk52m16_0 rfl rfl ?_
 obtain ⟨T302, h302, kc302, X302, e302, E302, A302, st302⟩ := newP X0 hx hZ (wi hw 8 rfl) e0 (g := (mkF m 1 #[.val (.ref ca), .val (.int 0), .val (.int 2), .unset, .unset, .unset] [(.int 2)])) rfl (hb hby djdk52m16_1) rfl (by decide : ¬ ((2 : Int32) < (0 : Int32))) (cap := 2) (by decide : (2 : Int32).toNatClampNeg ≤ 2) (by decide) (by decide) (by decide)
 obtain ⟨a302, g302⟩ : ∃ z, z = h0.size := ⟨_, rfl⟩
 rw [← g302] at A302 st302
 have ne303 : ca ≠ a302 := by rw [g302]; exact Nat.ne_of_lt f0.lt
 have ge304 : n0 ≤ a302 := Nat.le_trans Z0 (Nat.le_of_eq g302.symm)
 have f306 := f0.ext E302
 have Z307 := Nat.le_trans Z0 E302.1
 have Kp308 : Keep h0 h302 [] := K00.ext E302
 have f309 : Arv Z h302 a302 kc302 .byte (2 : Int32) [(.int (0 : Int32)), (.int (0 : Int32))] (.int (0 : Int32)) := (Arv.new A302 (by decide : ¬ ((2 : Int32) < (0 : Int32)))).pad (pad_rep [] (.int (0 : Int32)) 2)
 refine Rch.st (fun _ k => st302 _ k) ?_
 show Rch p e below T302 (mkF m 3 #[.val (.ref ca), .val (.int 0), .val (.int 2), .unset, .unset, .unset] [(.ref a302)]) _
 refine w_astoreN (pc' := 4) (l' := #[.val (.ref ca), .val (.int 0), .val (.int 2), .val (.ref a302), .unset, .unset]) X302 hx hby djdk52m16_3 rfl rfl rfl ?_
 refine w_aloadN (pc' := 5) X302 hx hby djdk52m16_4 rfl rfl rfl ?_
 refine w_iloadN (pc' := 6) X302 hx hby djdk52m16_5 rfl rfl ?_
 refine w_aloadN (pc' := 7) X302 hx hby djdk52m16_6 rfl rfl rfl ?_
 refine w_iconst (pc' := 8) (v := 0) X302 hx hby djdk52m16_7 rfl rfl ?_
 refine w_iloadN (pc' := 9) X302 hx hby djdk52m16_8 rfl rfl ?_
 obtain ⟨_, _, ⟨T310, L310, k310, n310⟩, -, X310, ⟨Lc310, hQ310, l310, y310, z310⟩, st310⟩ := Jvm.LawKit.callS X302 hx (y := (⟨"java/lang/StringUTF16", "compress", "([CI[BII)I"⟩ : MethodName)) hown (mvT hZ (wi hw 182 rfl)) (mvT hZ (wi hw 183 rfl)) (mvT hZ (wi hw 180 rfl)) (mvT hZ (wi hw 184 rfl)) (by decide) (backOf (W := 0) (rm_cmp5_2 l Z a0 hw [] ca kc a302 kc302 cc0 cc1 h302 n0 Z307 f306 f309 (ge304) (ne303) (hg0) (hg1)) hZ (wi hw 184 rfl) (wi hw 180 rfl) (by decide) (by decide)) (g := (mkF m 9 #[.val (.ref ca), .val (.int 0), .val (.int 2), .val (.ref a302), .unset, .unset] [(.int 2), (.int 0), (.ref a302), (.int 0), (.ref ca)])) rfl (by rw [hml]; rfl) (argsL := [(.ref ca), (.int 0), (.ref a302), (.int 0), (.int 2)]) (rest := []) (lenOf pd___CI_BII_I rfl) rfl (by show 2 * 0 + _ ≤ _; exact Nat.le_of_eq rfl) (hb hby djdk52m16_9) (fun _ _ => ⟨rfl, e302, (by decide : 1 + 0 ≤ _), (by decide : 2 + 0 ≤ _)⟩)
 dsimp only [Pt.U, Pt.locs, Pt.cells, Pt.slots] at X310 l310 y310 z310 st310 hQ310
 subst l310 y310 z310
 obtain ⟨rfl, NQ310, K310, fq310_0⟩ := hQ310
 have N311 := Fr.app N0 NQ310
 have Kp313 : Keep h0 T310.heap [] := Kp308.trans K310 (allS (Or.inr (Nat.le_trans K00.1 (Nat.le_of_eq g302.symm))) all0)
 refine Rch.st (fun _ k => st310 _ k) ?_
 show Rch p e below T310 (mkF m 12 #[.val (.ref ca), .val (.int 0), .val (.int 2), .val (.ref a302), .unset, .unset] [(.int 2)]) _
 refine w_istore (pc' := 14) (l' := #[.val (.ref ca), .val (.int 0), .val (.int 2), .val (.ref a302), .val (.int 2), .unset]) X310 hx hby djdk52m16_12 rfl rfl ?_
 refine w_iload (pc' := 16) X310 hx hby djdk52m16_14 rfl rfl ?_
 refine w_iloadN (pc' := 17) X310 hx hby djdk52m16_16 rfl rfl ?_
 refine w_icmpYes (pc' := 57) X310 hx hby djdk52m16_17 (XT.ii_eq_t (rfl)) (by decide) ?_
 refine w_aloadN (pc' := 58) X310 hx hby djdk52m16_57 rfl rfl rfl ?_
 exact Rch.retV X310 hx Bd.returns rfl (Or.inr (Or.inr (Or.inr (Or.inr ⟨rfl, rfl, rfl⟩)))) (hb hby djdk52m16_58) (by rw [(rfl : T310.heap = T310.heap)]; exact ⟨a302, kc302, rfl, N311, Kp313, (Nat.le_trans K00.1 (Nat.le_of_eq g302.symm)), fq310_0⟩) (by decide) (by decide)

theorem djdk42m149_0 : decode jdk_42_method_149_code 0 = .ok (.aload_n 0, 1) := by decide +kernel
theorem djdk42m149_1 : decode jdk_42_method_149_code 1 = .ok (.invokespecial 1, 3) := by decide +kernel
theorem djdk42m149_4 : decode jdk_42_method_149_code 4 = .ok (.iload_n 3, 1) := by decide +kernel
theorem djdk42m149_5 : decode jdk_42_method_149_code 5 = .ok (.ifCond .ne 22, 3) := by decide +kernel
theorem djdk42m149_27 : decode jdk_42_method_149_code 27 = .ok (.getstatic 38, 3) := by decide +kernel
theorem djdk42m149_30 : decode jdk_42_method_149_code 30 = .ok (.ifCond .eq 28, 3) := by decide +kernel
theorem djdk42m149_33 : decode jdk_42_method_149_code 33 = .ok (.aload_n 1, 1) := by decide +kernel
theorem djdk42m149_34 : decode jdk_42_method_149_code 34 = .ok (.iload_n 2, 1) := by decide +kernel
theorem djdk42m149_35 : decode jdk_42_method_149_code 35 = .ok (.iload_n 3, 1) := by decide +kernel
theorem djdk42m149_36 : decode jdk_42_method_149_code 36 = .ok (.invokestatic 177, 3) := by decide +kernel
theorem djdk42m149_39 : decode jdk_42_method_149_code 39 = .ok (.astore 5, 2) := by decide +kernel
theorem djdk42m149_41 : decode jdk_42_method_149_code 41 = .ok (.aload_n 0, 1) := by decide +kernel
theorem djdk42m149_42 : decode jdk_42_method_149_code 42 = .ok (.aload 5, 2) := by decide +kernel
theorem djdk42m149_44 : decode jdk_42_method_149_code 44 = .ok (.iload_n 3, 1) := by decide +kernel
theorem djdk42m149_45 : decode jdk_42_method_149_code 45 = .ok (.invokestatic 47, 3) := by decide +kernel
theorem djdk42m149_48 : decode jdk_42_method_149_code 48 = .ok (.putfield 15, 3) := by decide +kernel
theorem djdk42m149_51 : decode jdk_42_method_149_code 51 = .ok (.aload_n 0, 1) := by decide +kernel
theorem djdk42m149_52 : decode jdk_42_method_149_code 52 = .ok (.aload 5, 2) := by decide +kernel
theorem djdk42m149_54 : decode jdk_42_method_149_code 54 = .ok (.putfield 9, 3) := by decide +kernel
theorem djdk42m149_57 : decode jdk_42_method_149_code 57 = .ok (.return_, 1) := by decide +kernel
theorem ef_rm_init4_2 (m : MethodId) (G1 : Int32) (a5 : Addr) (ca : Addr) (kc : ClassId) (cc0 : Int32) (cc1 : Int32)  : entryFrame m #[(.ref a5), (.ref ca), (.int (0 : Int32)), (.int (2 : Int32)), .null] 6 = mkF m 0 #[.val (.ref a5), .val (.ref ca), .val (.int (0 : Int32)), .val (.int (2 : Int32)), .val .null, .unset] [] := by  first | (simp [entryFrame, mkF, argsToLocals, Value.category, maxLocals]; done) | rfl
def Q_rm_init4_2 (Z : State) (G1 : Int32) (a5 : Addr) (ca : Addr) (kc : ClassId) (cc0 : Int32) (cc1 : Int32) (h0 : Heap) (n0 : Nat) (v : Option Value) (h : Heap) (L : List Loc) : Prop := ∃ (t : Addr) (kt : ClassId), (v = none) ∧ (Fr n0 L) ∧ (Keep h0 h [a5]) ∧ (h0.size ≤ t) ∧ (Fld Z h a5 "java/lang/String" "coder" "B" (.int (0 : Int32))) ∧ (Fld Z h a5 "java/lang/String" "value" "[B" (.ref t)) ∧ (Arv Z h t kt .byte (2 : Int32) [(.int (own_by cc0)), (.int (own_by cc1))] (.int (0 : Int32)))
theorem pd___CII__B : parseMethodDescriptor "([CII)[B" = some ⟨[(.array .char), .int, .int], (some (.array .byte))⟩ := by decide +kernel
theorem pd___BI_B : parseMethodDescriptor "([BI)B" = some ⟨[(.array .byte), .int], (some .byte)⟩ := by decide +kernel
set_option maxRecDepth 65536 in
set_option maxHeartbeats 40000000 in
theorem rm_init4_2 (l : Launch) (Z : State) (a0 : Array Value) (hw : ∀ d ∈ tables_1, d.before a0 Z = true) (ws : List Jvm.Cond) (G1 : Int32) (a5 : Addr) (ca : Addr) (kc : ClassId) (cc0 : Int32) (cc1 : Int32) (h0 : Heap) (n0 : Nat) (Z0 : n0 ≤ h0.size) (O2 : Sta Z Z.heap "java/lang/String" "COMPACT_STRINGS" "Z" (.int G1)) (P5 : ¬ G1 = 0) (f2 : Exa Z h0 a5 "java/lang/String") (f3 : Fld Z h0 a5 "java/lang/String" "coder" "B" (.int (0 : Int32))) (f4 : Fld Z h0 a5 "java/lang/String" "value" "[B" .null) (f5 : Arv Z h0 ca kc .char (2 : Int32) [(.int cc0), (.int cc1)] (.int (0 : Int32))) (ga : n0 ≤ a5) (nca : a5 ≠ ca) (hg0 : ¬ (255 : Int32) < cc0) (hg1 : ¬ (255 : Int32) < cc1) (Old0 : OldL Z n0 h0) :
    MetFree l (⟨"java/lang/String", "<init>", "([CIILjava/lang/Void;)V"⟩ : MethodName) (head1 (Jvm.Cond.code (⟨"java/lang/String", "<init>", "([CIILjava/lang/Void;)V"⟩ : MethodName) jdk_42_method_149_code 6 none :: ws) ({ frames := 2, cells := 1, slots := 2, locals := 35 } : Room)) (fun a U => a = #[(.ref a5), (.ref ca), (.int (0 : Int32)), (.int (2 : Int32)), .null] ∧ Z.Warmed39 U.vm ∧ U.heap = h0) (fun _ _ _ _ _ => True) (fun _ U o U' => ∃ v L, o = .returned v ∧ Q_rm_init4_2 Z G1 a5 ca kc cc0 cc1 h0 n0 v U'.heap L ∧ FrameEnd U o U' L ({ frames := 2, cells := 1, slots := 2, locals := 35 } : Room).cells ({ frames := 2, cells := 1, slots := 2, locals := 35 } : Room).slots) := by
 refine MetFree.of_bodySF (plainFor_of_name pn_java_lang_String) hisR ?_
 intro p e s m args below meth c s₁ Bd hml0 hP hK
 obtain ⟨rfl, hZ, hh⟩ := hP
 have hx := Bd.exec
 have hby := Bd.bytes
 have hml : c.maxLocals = 6 := hml0
 have hown : s.vm.findClass "java/lang/String" = some m.cls := findClass_of_methodNamed Bd.named
 have hnm := (name_of_methodNamed Bd.named Bd.method).1
 have X0 : Stand p l e ({ frames := 2, cells := 1, slots := 2, locals := 35 } : Room) s m #[(.ref a5), (.ref ca), (.int (0 : Int32)), (.int (2 : Int32)), .null] below meth c s₁ [] 0 0 := Stand.of_body Bd
 have e0 : s₁.heap = h0 := by rw [← hh, Bd.state]; rfl
 have N0 := Fr.nil n0
 have K00 : Keep h0 h0 [a5] := Keep.refl _ _
 show Rch p e below s₁ (entryFrame m #[(.ref a5), (.ref ca), (.int (0 : Int32)), (.int (2 : Int32)), .null] 6) (FinP s (Q_rm_init4_2 Z G1 a5 ca kc cc0 cc1 h0 n0) 1 2)
 refine Rch.cast (ef_rm_init4_2 m G1 a5 ca kc cc0 cc1) ?_
 show Rch p e below s₁ (mkF m 0 #[.val (.ref a5), .val (.ref ca), .val (.int 0), .val (.int 2), .val .null, .unset] []) _
 refine w_aloadN (pc' := 1) X0 hx hby djdk42m149_0 rfl rfl rfl ?_
 obtain ⟨T315, X315, e315, st315⟩ := initO X0 hx hZ hown (wi hw 119 rfl) (wi hw 25 rfl) (wi hw 26 rfl) e0 (g := (mkF m 1 #[.val (.ref a5), .val (.ref ca), .val (.int 0), .val (.int 2), .val .null, .unset] [(.ref a5)])) rfl (by rw [hml]; rfl) rfl (hb hby djdk42m149_1) (by decide) (W := 0) (by show 2 * 0 + _ ≤ _; exact Nat.le_of_eq rfl) (by decide)
 refine Rch.st (fun _ k => st315 _ k) ?_
 show Rch p e below T315 (mkF m 4 #[.val (.ref a5), .val (.ref ca), .val (.int 0), .val (.int 2), .val .null, .unset] []) _
 refine w_iloadN (pc' := 5) X315 hx hby djdk42m149_4 rfl rfl ?_
 refine w_ifYes (pc' := 27) X315 hx hby djdk42m149_5 (XT.i0_ne_t (by decide)) (by decide) ?_
 obtain ⟨T316, X316, e316, st316⟩ := getS X315 hx hZ hown (host := "") (wi hw 77 rfl) Via.refl e315 (O2.ext Old0.2) (g := (mkF m 27 #[.val (.ref a5), .val (.ref ca), .val (.int 0), .val (.int 2), .val .null, .unset] [])) rfl (hb hby djdk42m149_27)
 refine Rch.st (fun _ k => st316 _ k) ?_
 show Rch p e below T316 (mkF m 30 #[.val (.ref a5), .val (.ref ca), .val (.int 0), .val (.int 2), .val .null, .unset] [(.int G1)]) _
 refine w_ifNo (pc' := 33) X316 hx hby djdk42m149_30 (XT.i0_eq_f (P5)) rfl ?_
 refine w_aloadN (pc' := 34) X316 hx hby djdk42m149_33 rfl rfl rfl ?_
 refine w_iloadN (pc' := 35) X316 hx hby djdk42m149_34 rfl rfl ?_
 refine w_iloadN (pc' := 36) X316 hx hby djdk42m149_35 rfl rfl ?_
 obtain ⟨_, _, ⟨T317, L317, k317, n317⟩, -, X317, ⟨Lc317, hQ317, l317, y317, z317⟩, st317⟩ := Jvm.LawKit.callS X316 hx (y := (⟨"java/lang/StringUTF16", "compress", "([CII)[B"⟩ : MethodName)) hown (mvT hZ (wi hw 178 rfl)) (mvT hZ (wi hw 179 rfl)) (mvT hZ (wi hw 180 rfl)) (mvT hZ (wi hw 181 rfl)) (by decide) (backOf (W := 0) (rm_cmp3_2 l Z a0 hw [] ca kc cc0 cc1 h0 n0 Z0 f5 (hg0) (hg1)) hZ (wi hw 181 rfl) (wi hw 180 rfl) (by decide) (by decide)) (g := (mkF m 36 #[.val (.ref a5), .val (.ref ca), .val (.int 0), .val (.int 2), .val .null, .unset] [(.int 2), (.int 0), (.ref ca)])) rfl (by rw [hml]; rfl) (argsL := [(.ref ca), (.int 0), (.int 2)]) (rest := []) (lenOf pd___CII__B rfl) rfl (by show 2 * 0 + _ ≤ _; exact Nat.le_of_eq rfl) (hb hby djdk42m149_36) (fun _ _ => ⟨rfl, e316, (by decide : 0 + 1 ≤ _), (by decide : 0 + 2 ≤ _)⟩)
 dsimp only [Pt.U, Pt.locs, Pt.cells, Pt.slots] at X317 l317 y317 z317 st317 hQ317
 subst l317 y317 z317
 obtain ⟨t_317, kt_317, rfl, NQ317, K317, pq317_0, fq317_0⟩ := hQ317
 have N318 := Fr.app N0 NQ317
 have ne319 := nlt f2.lt pq317_0
 have f322 := f2.keep K317
 have f323 := f3.keep K317 nin0
 have f324 := f4.keep K317 nin0
 have Kp327 : Keep h0 T317.heap [a5] := K00.trans K317 all0
 have Z328 := Nat.le_trans Z0 K317.1
 refine Rch.st (fun _ k => st317 _ k) ?_
 show Rch p e below T317 (mkF m 39 #[.val (.ref a5), .val (.ref ca), .val (.int 0), .val (.int 2), .val .null, .unset] [(.ref t_317)]) _
 refine w_astore (pc' := 41) (l' := #[.val (.ref a5), .val (.ref ca), .val (.int 0), .val (.int 2), .val .null, .val (.ref t_317)]) X317 hx hby djdk42m149_39 rfl rfl rfl ?_
 refine w_aloadN (pc' := 42) X317 hx hby djdk42m149_41 rfl rfl rfl ?_
 refine w_aload (pc' := 44) X317 hx hby djdk42m149_42 rfl rfl rfl ?_
 refine w_iloadN (pc' := 45) X317 hx hby djdk42m149_44 rfl rfl ?_
 obtain ⟨_, _, ⟨T329, L329, k329, n329⟩, -, X329, ⟨Lc329, hQ329, l329, y329, z329⟩, st329⟩ := Jvm.LawKit.callS X317 hx (y := (⟨"java/lang/StringUTF16", "coderFromArrayLen", "([BI)B"⟩ : MethodName)) hown (mvT hZ (wi hw 185 rfl)) (mvT hZ (wi hw 186 rfl)) (mvT hZ (wi hw 180 rfl)) (mvT hZ (wi hw 187 rfl)) (by decide) (backOf (W := 1) (rm_cfl l Z a0 hw [] t_317 kt_317 2 2 ([(.int (own_by cc0)), (.int (own_by cc1))]) (.int 0) T317.heap n0 Z328 fq317_0) hZ (wi hw 187 rfl) (wi hw 180 rfl) (by decide) (by decide)) (g := (mkF m 45 #[.val (.ref a5), .val (.ref ca), .val (.int 0), .val (.int 2), .val .null, .val (.ref t_317)] [(.int 2), (.ref t_317), (.ref a5)])) rfl (by rw [hml]; rfl) (argsL := [(.ref t_317), (.int 2)]) (rest := [(.ref a5)]) (lenOf pd___BI_B rfl) rfl (by show 2 * 0 + _ ≤ _; exact Nat.le_of_eq rfl) (hb hby djdk42m149_45) (fun _ _ => ⟨rfl, (rfl : T317.heap = T317.heap), (by decide : 1 + 0 ≤ _), (by decide : 2 + 0 ≤ _)⟩)
 dsimp only [Pt.U, Pt.locs, Pt.cells, Pt.slots] at X329 l329 y329 z329 st329 hQ329
 subst l329 y329 z329
 obtain ⟨rfl, NQ329, K329⟩ := hQ329
 have N330 := Fr.app N318 NQ329
 refine Rch.st (fun _ k => st329 _ k) ?_
 show Rch p e below T329 (mkF m 48 #[.val (.ref a5), .val (.ref ca), .val (.int 0), .val (.int 2), .val .null, .val (.ref t_317)] [(.int ((XT.ushr ((2 : Int32) - (2 : Int32)) (31 : Int32))).toInt8.toInt32), (.ref a5)]) _
 have r331 : ((XT.ushr ((2 : Int32) - (2 : Int32)) (31 : Int32))).toInt8.toInt32 = (0 : Int32) := by decide
 rw [r331]
 show Rch p e below T329 (mkF m 48 #[.val (.ref a5), .val (.ref ca), .val (.int 0), .val (.int 2), .val .null, .val (.ref t_317)] [(.int 0), (.ref a5)]) _
 obtain ⟨T332, h332, X332, e332, W332, st332⟩ := putF X329 hx hZ hown (host := "") (Or.inl (wi hw 78 rfl)) Via.refl K329 f323 f322 (Or.inr ⟨(wi hw 10 rfl), rfl, hnm⟩) (wi hw 7 rfl) (ty := .byte) (by decide) rfl rfl (g := (mkF m 48 #[.val (.ref a5), .val (.ref ca), .val (.int 0), .val (.int 2), .val .null, .val (.ref t_317)] [(.int 0), (.ref a5)])) rfl rfl (hb hby djdk42m149_48)
 have N333 := Fr.snoc X332 N330 ga
 have f334 := f322.wr W332
 have f335 := f323.same W332
 have f336 := f324.other W332 (Or.inr (slot_ne (t := (.array .byte)) (t' := .byte) (Or.inr (wi hw 9 rfl)) (Or.inr (wi hw 10 rfl)) (by decide) (by decide) (by decide)))
 have f338 := fq317_0.other W332 (Ne.symm ne319)
 have Kp341 : Keep h0 h332 [a5] := Kp327.wr W332 (Or.inl (List.mem_of_getElem? (i := 0) rfl))
 refine Rch.st (fun _ k => st332 _ k) ?_
 show Rch p e below T332 (mkF m 51 #[.val (.ref a5), .val (.ref ca), .val (.int 0), .val (.int 2), .val .null, .val (.ref t_317)] []) _
 refine w_aloadN (pc' := 52) X332 hx hby djdk42m149_51 rfl rfl rfl ?_
 refine w_aload (pc' := 54) X332 hx hby djdk42m149_52 rfl rfl rfl ?_
 obtain ⟨T342, h342, X342, e342, W342, st342⟩ := putF X332 hx hZ hown (host := "") (Or.inl (wi hw 71 rfl)) Via.refl e332 f336 f334 (Or.inr ⟨(wi hw 9 rfl), rfl, hnm⟩) (wi hw 7 rfl) (ty := (.array .byte)) (by decide) rfl rfl (g := (mkF m 54 #[.val (.ref a5), .val (.ref ca), .val (.int 0), .val (.int 2), .val .null, .val (.ref t_317)] [(.ref t_317), (.ref a5)])) rfl rfl (hb hby djdk42m149_54)
 have N343 := Fr.snoc X342 N333 ga
 have f345 := f335.other W342 (Or.inr (slot_ne (t := .byte) (t' := (.array .byte)) (Or.inr (wi hw 10 rfl)) (Or.inr (wi hw 9 rfl)) (by decide) (by decide) (by decide)))
 have f346 := f336.same W342
 have f348 := f338.other W342 (Ne.symm ne319)
 have Kp351 : Keep h0 h342 [a5] := Kp341.wr W342 (Or.inl (List.mem_of_getElem? (i := 0) rfl))
 refine Rch.st (fun _ k => st342 _ k) ?_
 show Rch p e below T342 (mkF m 57 #[.val (.ref a5), .val (.ref ca), .val (.int 0), .val (.int 2), .val .null, .val (.ref t_317)] []) _
 exact Rch.ret0 X342 hx Bd.returns (hb hby djdk42m149_57) (by rw [e342]; exact ⟨t_317, kt_317, rfl, N343, Kp351, (Nat.le_trans K00.1 pq317_0), f345, f346, f348⟩) (by decide) (by decide)

theorem djdk42m3_0 : decode jdk_42_method_3_code 0 = .ok (.aload_n 0, 1) := by decide +kernel
theorem djdk42m3_1 : decode jdk_42_method_3_code 1 = .ok (.aload_n 1, 1) := by decide +kernel
theorem djdk42m3_2 : decode jdk_42_method_3_code 2 = .ok (.iconst 0, 1) := by decide +kernel
theorem djdk42m3_3 : decode jdk_42_method_3_code 3 = .ok (.aload_n 1, 1) := by decide +kernel
theorem djdk42m3_4 : decode jdk_42_method_3_code 4 = .ok (.arraylength, 1) := by decide +kernel
theorem djdk42m3_5 : decode jdk_42_method_3_code 5 = .ok (.aconst_null, 1) := by decide +kernel
theorem djdk42m3_6 : decode jdk_42_method_3_code 6 = .ok (.invokespecial 27, 3) := by decide +kernel
theorem djdk42m3_9 : decode jdk_42_method_3_code 9 = .ok (.return_, 1) := by decide +kernel
theorem ef_rm_init1_2 (m : MethodId) (G1 : Int32) (a5 : Addr) (ca : Addr) (kc : ClassId) (cc0 : Int32) (cc1 : Int32)  : entryFrame m #[(.ref a5), (.ref ca)] 2 = mkF m 0 #[.val (.ref a5), .val (.ref ca)] [] := by  first | (simp [entryFrame, mkF, argsToLocals, Value.category, maxLocals]; done) | rfl
def Q_rm_init1_2 (Z : State) (G1 : Int32) (a5 : Addr) (ca : Addr) (kc : ClassId) (cc0 : Int32) (cc1 : Int32) (h0 : Heap) (n0 : Nat) (v : Option Value) (h : Heap) (L : List Loc) : Prop := ∃ (t : Addr) (kt : ClassId), (v = none) ∧ (Fr n0 L) ∧ (Keep h0 h [a5]) ∧ (h0.size ≤ t) ∧ (Fld Z h a5 "java/lang/String" "coder" "B" (.int (0 : Int32))) ∧ (Fld Z h a5 "java/lang/String" "value" "[B" (.ref t)) ∧ (Arv Z h t kt .byte (2 : Int32) [(.int (own_by cc0)), (.int (own_by cc1))] (.int (0 : Int32)))
theorem pd___CIILjava_lang_Void__V : parseMethodDescriptor "([CIILjava/lang/Void;)V" = some ⟨[(.array .char), .int, .int, (.object "java/lang/Void")], none⟩ := by decide +kernel
set_option maxRecDepth 65536 in
set_option maxHeartbeats 40000000 in
theorem rm_init1_2 (l : Launch) (Z : State) (a0 : Array Value) (hw : ∀ d ∈ tables_1, d.before a0 Z = true) (ws : List Jvm.Cond) (G1 : Int32) (a5 : Addr) (ca : Addr) (kc : ClassId) (cc0 : Int32) (cc1 : Int32) (h0 : Heap) (n0 : Nat) (Z0 : n0 ≤ h0.size) (O2 : Sta Z Z.heap "java/lang/String" "COMPACT_STRINGS" "Z" (.int G1)) (P5 : ¬ G1 = 0) (f2 : Exa Z h0 a5 "java/lang/String") (f3 : Fld Z h0 a5 "java/lang/String" "coder" "B" (.int (0 : Int32))) (f4 : Fld Z h0 a5 "java/lang/String" "value" "[B" .null) (f5 : Arv Z h0 ca kc .char (2 : Int32) [(.int cc0), (.int cc1)] (.int (0 : Int32))) (ga : n0 ≤ a5) (nca : a5 ≠ ca) (hg0 : ¬ (255 : Int32) < cc0) (hg1 : ¬ (255 : Int32) < cc1) (Old0 : OldL Z n0 h0) :
    MetFree l (⟨"java/lang/String", "<init>", "([C)V"⟩ : MethodName) (head1 (Jvm.Cond.code (⟨"java/lang/String", "<init>", "([C)V"⟩ : MethodName) jdk_42_method_3_code 2 none :: ws) ({ frames := 3, cells := 1, slots := 2, locals := 52 } : Room)) (fun a U => a = #[(.ref a5), (.ref ca)] ∧ Z.Warmed39 U.vm ∧ U.heap = h0) (fun _ _ _ _ _ => True) (fun _ U o U' => ∃ v L, o = .returned v ∧ Q_rm_init1_2 Z G1 a5 ca kc cc0 cc1 h0 n0 v U'.heap L ∧ FrameEnd U o U' L ({ frames := 3, cells := 1, slots := 2, locals := 52 } : Room).cells ({ frames := 3, cells := 1, slots := 2, locals := 52 } : Room).slots) := by
 refine MetFree.of_bodySF (plainFor_of_name pn_java_lang_String) hisR ?_
 intro p e s m args below meth c s₁ Bd hml0 hP hK
 obtain ⟨rfl, hZ, hh⟩ := hP
 have hx := Bd.exec
 have hby := Bd.bytes
 have hml : c.maxLocals = 2 := hml0
 have hown : s.vm.findClass "java/lang/String" = some m.cls := findClass_of_methodNamed Bd.named
 have hnm := (name_of_methodNamed Bd.named Bd.method).1
 have X0 : Stand p l e ({ frames := 3, cells := 1, slots := 2, locals := 52 } : Room) s m #[(.ref a5), (.ref ca)] below meth c s₁ [] 0 0 := Stand.of_body Bd
 have e0 : s₁.heap = h0 := by rw [← hh, Bd.state]; rfl
 have N0 := Fr.nil n0
 have K00 : Keep h0 h0 [a5] := Keep.refl _ _
 show Rch p e below s₁ (entryFrame m #[(.ref a5), (.ref ca)] 2) (FinP s (Q_rm_init1_2 Z G1 a5 ca kc cc0 cc1 h0 n0) 1 2)
 refine Rch.cast (ef_rm_init1_2 m G1 a5 ca kc cc0 cc1) ?_
 show Rch p e below s₁ (mkF m 0 #[.val (.ref a5), .val (.ref ca)] []) _
 refine w_aloadN (pc' := 1) X0 hx hby djdk42m3_0 rfl rfl rfl ?_
 refine w_aloadN (pc' := 2) X0 hx hby djdk42m3_1 rfl rfl rfl ?_
 refine w_iconst (pc' := 3) (v := 0) X0 hx hby djdk42m3_2 rfl rfl ?_
 refine w_aloadN (pc' := 4) X0 hx hby djdk42m3_3 rfl rfl rfl ?_
 refine Rch.st (fun _ k => own_alen X0 hx hZ e0 f5 rfl rfl (hb hby djdk42m3_4) k) ?_
 show Rch p e below s₁ (mkF m 5 #[.val (.ref a5), .val (.ref ca)] [(.int 2), (.int 0), (.ref ca), (.ref a5)]) _
 refine w_aconstNull (pc' := 6) X0 hx hby djdk42m3_5 rfl ?_
 obtain ⟨_, _, ⟨T352, L352, k352, n352⟩, -, X352, ⟨Lc352, hQ352, l352, y352, z352⟩, st352⟩ := X0.specialBack hx (y := (⟨"java/lang/String", "<init>", "([CIILjava/lang/Void;)V"⟩ : MethodName)) rfl hown (mvT hZ (wi hw 175 rfl)) (mvT hZ (wi hw 176 rfl)) (mvT hZ (wi hw 177 rfl)) (by decide) (backOf (W := 0) (rm_init4_2 l Z a0 hw [] G1 a5 ca kc cc0 cc1 h0 n0 Z0 (O2) (P5) f2 f3 f4 f5 (ga) (nca) (hg0) (hg1) Old0) hZ (wi hw 177 rfl) (wi hw 6 rfl) (by decide) (by decide)) (g := (mkF m 6 #[.val (.ref a5), .val (.ref ca)] [.null, (.int 2), (.int 0), (.ref ca), (.ref a5)])) rfl (by rw [hml]; rfl) (Steps.refl _) (a := a5) (argsL := [(.ref ca), (.int 0), (.int 2), .null]) (rest := []) (lenOf pd___CIILjava_lang_Void__V rfl) rfl (by show 2 * 0 + _ ≤ _; exact Nat.le_of_eq rfl) (hb hby djdk42m3_6) (fun _ _ => ⟨rfl, e0, (by decide : 0 + 1 ≤ _), (by decide : 0 + 2 ≤ _)⟩)
 dsimp only [Pt.U, Pt.locs, Pt.cells, Pt.slots] at X352 l352 y352 z352 st352 hQ352
 subst l352 y352 z352
 obtain ⟨t_352, kt_352, rfl, NQ352, K352, pq352_0, fq352_0, fq352_1, fq352_2⟩ := hQ352
 have N353 := Fr.app N0 NQ352
 have Kp360 : Keep h0 T352.heap [a5] := K00.trans K352 (allS (Or.inl (List.mem_of_getElem? (i := 0) rfl)) all0)
 refine Rch.st (fun _ k => st352.trans k) ?_
 show Rch p e below T352 (mkF m 9 #[.val (.ref a5), .val (.ref ca)] []) _
 exact Rch.ret0 X352 hx Bd.returns (hb hby djdk42m3_9) (by rw [(rfl : T352.heap = T352.heap)]; exact ⟨t_352, kt_352, rfl, N353, Kp360, (Nat.le_trans K00.1 pq352_0), fq352_0, fq352_1, fq352_2⟩) (by decide) (by decide)

theorem ef_rm_cmp5_3 (m : MethodId) (ca : Addr) (kc : ClassId) (bd : Addr) (kd : ClassId) (cc0 : Int32) (cc1 : Int32) (cc2 : Int32)  : entryFrame m #[(.ref ca), (.int (0 : Int32)), (.ref bd), (.int (0 : Int32)), (.int (3 : Int32))] 7 = mkF m 0 #[.val (.ref ca), .val (.int (0 : Int32)), .val (.ref bd), .val (.int (0 : Int32)), .val (.int (3 : Int32)), .unset, .unset] [] := by  first | (simp [entryFrame, mkF, argsToLocals, Value.category, maxLocals]; done) | rfl
def Q_rm_cmp5_3 (Z : State) (ca : Addr) (kc : ClassId) (bd : Addr) (kd : ClassId) (cc0 : Int32) (cc1 : Int32) (cc2 : Int32) (h0 : Heap) (n0 : Nat) (v : Option Value) (h : Heap) (L : List Loc) : Prop := (v = some (.int (3 : Int32))) ∧ (Fr n0 L) ∧ (Keep h0 h [bd]) ∧ (Arv Z h bd kd .byte (3 : Int32) [(.int (own_by cc0)), (.int (own_by cc1)), (.int (own_by cc2))] (.int (0 : Int32)))
set_option maxRecDepth 65536 in
set_option maxHeartbeats 40000000 in
theorem rm_cmp5_3 (l : Launch) (Z : State) (a0 : Array Value) (hw : ∀ d ∈ tables_1, d.before a0 Z = true) (ws : List Jvm.Cond) (ca : Addr) (kc : ClassId) (bd : Addr) (kd : ClassId) (cc0 : Int32) (cc1 : Int32) (cc2 : Int32) (h0 : Heap) (n0 : Nat) (Z0 : n0 ≤ h0.size) (f0 : Arv Z h0 ca kc .char (3 : Int32) [(.int cc0), (.int cc1), (.int cc2)] (.int (0 : Int32))) (f1 : Arv Z h0 bd kd .byte (3 : Int32) [(.int (0 : Int32)), (.int (0 : Int32)), (.int (0 : Int32))] (.int (0 : Int32))) (gd : n0 ≤ bd) (ncd : ca ≠ bd) (hg0 : ¬ (255 : Int32) < cc0) (hg1 : ¬ (255 : Int32) < cc1) (hg2 : ¬ (255 : Int32) < cc2) :
    MetFree l (⟨"java/lang/StringUTF16", "compress", "([CI[BII)I"⟩ : MethodName) (head1 (Jvm.Cond.code (⟨"java/lang/StringUTF16", "compress", "([CI[BII)I"⟩ : MethodName) jdk_52_method_21_code 7 (some .int) :: ws) ({ frames := 0, cells := 0, slots := 0, locals := 0 } : Room)) (fun a U => a = #[(.ref ca), (.int (0 : Int32)), (.ref bd), (.int (0 : Int32)), (.int (3 : Int32))] ∧ Z.Warmed39 U.vm ∧ U.heap = h0) (fun _ _ _ _ _ => True) (fun _ U o U' => ∃ v L, o = .returned v ∧ Q_rm_cmp5_3 Z ca kc bd kd cc0 cc1 cc2 h0 n0 v U'.heap L ∧ FrameEnd U o U' L ({ frames := 0, cells := 0, slots := 0, locals := 0 } : Room).cells ({ frames := 0, cells := 0, slots := 0, locals := 0 } : Room).slots) := by
 refine MetFree.of_bodySF (plainFor_of_name pn_java_lang_StringUTF16) hisR ?_
 intro p e s m args below meth c s₁ Bd hml0 hP hK
 obtain ⟨rfl, hZ, hh⟩ := hP
 have hx := Bd.exec
 have hby := Bd.bytes
 have hml : c.maxLocals = 7 := hml0
 have hown : s.vm.findClass "java/lang/StringUTF16" = some m.cls := findClass_of_methodNamed Bd.named
 have hnm := (name_of_methodNamed Bd.named Bd.method).1
 have X0 : Stand p l e ({ frames := 0, cells := 0, slots := 0, locals := 0 } : Room) s m #[(.ref ca), (.int (0 : Int32)), (.ref bd), (.int (0 : Int32)), (.int (3 : Int32))] below meth c s₁ [] 0 0 := Stand.of_body Bd
 have e0 : s₁.heap = h0 := by rw [← hh, Bd.state]; rfl
 have N0 := Fr.nil n0
 have K00 : Keep h0 h0 [bd] := Keep.refl _ _
 show Rch p e below s₁ (entryFrame m #[(.ref ca), (.int (0 : Int32)), (.ref bd), (.int (0 : Int32)), (.int (3 : Int32))] 7) (FinP s (Q_rm_cmp5_3 Z ca kc bd kd cc0 cc1 cc2 h0 n0) 0 0)
 refine Rch.cast (ef_rm_cmp5_3 m ca kc bd kd cc0 cc1 cc2) ?_
 show Rch p e below s₁ (mkF m 0 #[.val (.ref ca), .val (.int 0), .val (.ref bd), .val (.int 0), .val (.int 3), .unset, .unset] []) _
 refine w_iconst (pc' := 1) (v := 0) X0 hx hby djdk52m21_0 rfl rfl ?_
 refine w_istore (pc' := 3) (l' := #[.val (.ref ca), .val (.int 0), .val (.ref bd), .val (.int 0), .val (.int 3), .val (.int 0), .unset]) X0 hx hby djdk52m21_1 rfl rfl ?_
 refine w_iload (pc' := 5) X0 hx hby djdk52m21_3 rfl rfl ?_
 refine w_iload (pc' := 7) X0 hx hby djdk52m21_5 rfl rfl ?_
 refine w_icmpNo (pc' := 10) X0 hx hby djdk52m21_7 (XT.ii_ge_f (by decide)) rfl ?_
 refine w_aloadN (pc' := 11) X0 hx hby djdk52m21_10 rfl rfl rfl ?_
 refine w_iloadN (pc' := 12) X0 hx hby djdk52m21_11 rfl rfl ?_
 refine Rch.st (fun _ k => own_ldC X0 hx hZ e0 f0 (j := (0 : Int32)) ⟨by decide, by decide⟩ (by rfl) rfl rfl (hb hby djdk52m21_12) k) ?_
 show Rch p e below s₁ (mkF m 13 #[.val (.ref ca), .val (.int 0), .val (.ref bd), .val (.int 0), .val (.int 3), .val (.int 0), .unset] [(.int cc0)]) _
 refine w_istore (pc' := 15) (l' := #[.val (.ref ca), .val (.int 0), .val (.ref bd), .val (.int 0), .val (.int 3), .val (.int 0), .val (.int cc0)]) X0 hx hby djdk52m21_13 rfl rfl ?_
 refine w_iload (pc' := 17) X0 hx hby djdk52m21_15 rfl rfl ?_
 refine w_sipush (pc' := 20) (v := 255) X0 hx hby djdk52m21_17 rfl rfl ?_
 refine w_icmpYes (pc' := 26) X0 hx hby djdk52m21_20 (XT.ii_le_t (hg0)) (by decide) ?_
 refine w_aloadN (pc' := 27) X0 hx hby djdk52m21_26 rfl rfl rfl ?_
 refine w_iloadN (pc' := 28) X0 hx hby djdk52m21_27 rfl rfl ?_
 refine w_iload (pc' := 30) X0 hx hby djdk52m21_28 rfl rfl ?_
 refine w_i2b (pc' := 31) X0 hx hby djdk52m21_30 rfl ?_
 obtain ⟨T362, h362, X362, e362, W362, V362, st362⟩ := own_stB X0 hx hZ e0 f1 (j := (0 : Int32)) ⟨by decide, by decide⟩ 0 (by decide) (by decide : 0 < 3) (g := (mkF m 31 #[.val (.ref ca), .val (.int 0), .val (.ref bd), .val (.int 0), .val (.int 3), .val (.int 0), .val (.int cc0)] [(.int (cc0).toInt8.toInt32), (.int 0), (.ref bd)])) rfl rfl (hb hby djdk52m21_31)
 have N363 := Fr.snoc X362 N0 gd
 have f364 := f0.other W362 ncd
 have Kp366 : Keep h0 h362 [bd] := K00.wr W362 (Or.inl (List.mem_of_getElem? (i := 0) rfl))
 have f367 : Arv Z h362 bd kd .byte (3 : Int32) [(.int ((cc0).toInt8.toInt32).toInt8.toInt32), (.int (0 : Int32)), (.int (0 : Int32))] (.int (0 : Int32)) := V362
 refine Rch.st (fun _ k => st362 _ k) ?_
 show Rch p e below T362 (mkF m 32 #[.val (.ref ca), .val (.int 0), .val (.ref bd), .val (.int 0), .val (.int 3), .val (.int 0), .val (.int cc0)] []) _
 refine w_iinc (pc' := 35) (w := (1 : Int32)) (l' := #[.val (.ref ca), .val (.int (1 : Int32)), .val (.ref bd), .val (.int (0 : Int32)), .val (.int (3 : Int32)), .val (.int (0 : Int32)), .val (.int cc0)]) X362 hx hby djdk52m21_32 rfl (by decide) rfl rfl ?_
 refine w_iinc (pc' := 38) (w := (1 : Int32)) (l' := #[.val (.ref ca), .val (.int (1 : Int32)), .val (.ref bd), .val (.int (1 : Int32)), .val (.int (3 : Int32)), .val (.int (0 : Int32)), .val (.int cc0)]) X362 hx hby djdk52m21_35 rfl (by decide) rfl rfl ?_
 refine w_iinc (pc' := 41) (w := (1 : Int32)) (l' := #[.val (.ref ca), .val (.int (1 : Int32)), .val (.ref bd), .val (.int (1 : Int32)), .val (.int (3 : Int32)), .val (.int (1 : Int32)), .val (.int cc0)]) X362 hx hby djdk52m21_38 rfl (by decide) rfl rfl ?_
 refine w_goto (pc' := 3) X362 hx hby djdk52m21_41 (by decide) ?_
 refine w_iload (pc' := 5) X362 hx hby djdk52m21_3 rfl rfl ?_
 refine w_iload (pc' := 7) X362 hx hby djdk52m21_5 rfl rfl ?_
 refine w_icmpNo (pc' := 10) X362 hx hby djdk52m21_7 (XT.ii_ge_f (by decide)) rfl ?_
 refine w_aloadN (pc' := 11) X362 hx hby djdk52m21_10 rfl rfl rfl ?_
 refine w_iloadN (pc' := 12) X362 hx hby djdk52m21_11 rfl rfl ?_
 refine Rch.st (fun _ k => own_ldC X362 hx hZ e362 f364 (j := (1 : Int32)) ⟨by decide, by decide⟩ (by rfl) rfl rfl (hb hby djdk52m21_12) k) ?_
 show Rch p e below T362 (mkF m 13 #[.val (.ref ca), .val (.int 1), .val (.ref bd), .val (.int 1), .val (.int 3), .val (.int 1), .val (.int cc0)] [(.int cc1)]) _
 refine w_istore (pc' := 15) (l' := #[.val (.ref ca), .val (.int 1), .val (.ref bd), .val (.int 1), .val (.int 3), .val (.int 1), .val (.int cc1)]) X362 hx hby djdk52m21_13 rfl rfl ?_
 refine w_iload (pc' := 17) X362 hx hby djdk52m21_15 rfl rfl ?_
 refine w_sipush (pc' := 20) (v := 255) X362 hx hby djdk52m21_17 rfl rfl ?_
 refine w_icmpYes (pc' := 26) X362 hx hby djdk52m21_20 (XT.ii_le_t (hg1)) (by decide) ?_
 refine w_aloadN (pc' := 27) X362 hx hby djdk52m21_26 rfl rfl rfl ?_
 refine w_iloadN (pc' := 28) X362 hx hby djdk52m21_27 rfl rfl ?_
 refine w_iload (pc' := 30) X362 hx hby djdk52m21_28 rfl rfl ?_
 refine w_i2b (pc' := 31) X362 hx hby djdk52m21_30 rfl ?_
 obtain ⟨T368, h368, X368, e368, W368, V368, st368⟩ := own_stB X362 hx hZ e362 f367 (j := (1 : Int32)) ⟨by decide, by decide⟩ 1 (by decide) (by decide : 1 < 3) (g := (mkF m 31 #[.val (.ref ca), .val (.int 1), .val (.ref bd), .val (.int 1), .val (.int 3), .val (.int 1), .val (.int cc1)] [(.int (cc1).toInt8.toInt32), (.int 1), (.ref bd)])) rfl rfl (hb hby djdk52m21_31)
 have N369 := Fr.snoc X368 N363 gd
 have f370 := f364.other W368 ncd
 have Kp372 : Keep h0 h368 [bd] := Kp366.wr W368 (Or.inl (List.mem_of_getElem? (i := 0) rfl))
 have f373 : Arv Z h368 bd kd .byte (3 : Int32) [(.int ((cc0).toInt8.toInt32).toInt8.toInt32), (.int ((cc1).toInt8.toInt32).toInt8.toInt32), (.int (0 : Int32))] (.int (0 : Int32)) := V368
 refine Rch.st (fun _ k => st368 _ k) ?_
 show Rch p e below T368 (mkF m 32 #[.val (.ref ca), .val (.int 1), .val (.ref bd), .val (.int 1), .val (.int 3), .val (.int 1), .val (.int cc1)] []) _
 refine w_iinc (pc' := 35) (w := (2 : Int32)) (l' := #[.val (.ref ca), .val (.int (2 : Int32)), .val (.ref bd), .val (.int (1 : Int32)), .val (.int (3 : Int32)), .val (.int (1 : Int32)), .val (.int cc1)]) X368 hx hby djdk52m21_32 rfl (by decide) rfl rfl ?_
 refine w_iinc (pc' := 38) (w := (2 : Int32)) (l' := #[.val (.ref ca), .val (.int (2 : Int32)), .val (.ref bd), .val (.int (2 : Int32)), .val (.int (3 : Int32)), .val (.int (1 : Int32)), .val (.int cc1)]) X368 hx hby djdk52m21_35 rfl (by decide) rfl rfl ?_
 refine w_iinc (pc' := 41) (w := (2 : Int32)) (l' := #[.val (.ref ca), .val (.int (2 : Int32)), .val (.ref bd), .val (.int (2 : Int32)), .val (.int (3 : Int32)), .val (.int (2 : Int32)), .val (.int cc1)]) X368 hx hby djdk52m21_38 rfl (by decide) rfl rfl ?_
 refine w_goto (pc' := 3) X368 hx hby djdk52m21_41 (by decide) ?_
 refine w_iload (pc' := 5) X368 hx hby djdk52m21_3 rfl rfl ?_
 refine w_iload (pc' := 7) X368 hx hby djdk52m21_5 rfl rfl ?_
 refine w_icmpNo (pc' := 10) X368 hx hby djdk52m21_7 (XT.ii_ge_f (by decide)) rfl ?_
 refine w_aloadN (pc' := 11) X368 hx hby djdk52m21_10 rfl rfl rfl ?_
 refine w_iloadN (pc' := 12) X368 hx hby djdk52m21_11 rfl rfl ?_
 refine Rch.st (fun _ k => own_ldC X368 hx hZ e368 f370 (j := (2 : Int32)) ⟨by decide, by decide⟩ (by rfl) rfl rfl (hb hby djdk52m21_12) k) ?_
 show Rch p e below T368 (mkF m 13 #[.val (.ref ca), .val (.int 2), .val (.ref bd), .val (.int 2), .val (.int 3), .val (.int 2), .val (.int cc1)] [(.int cc2)]) _
 refine w_istore (pc' := 15) (l' := #[.val (.ref ca), .val (.int 2), .val (.ref bd), .val (.int 2), .val (.int 3), .val (.int 2), .val (.int cc2)]) X368 hx hby djdk52m21_13 rfl rfl ?_
 refine w_iload (pc' := 17) X368 hx hby djdk52m21_15 rfl rfl ?_
 refine w_sipush (pc' := 20) (v := 255) X368 hx hby djdk52m21_17 rfl rfl ?_
 refine w_icmpYes (pc' := 26) X368 hx hby djdk52m21_20 (XT.ii_le_t (hg2)) (by decide) ?_
 refine w_aloadN (pc' := 27) X368 hx hby djdk52m21_26 rfl rfl rfl ?_
 refine w_iloadN (pc' := 28) X368 hx hby djdk52m21_27 rfl rfl ?_
 refine w_iload (pc' := 30) X368 hx hby djdk52m21_28 rfl rfl ?_
 refine w_i2b (pc' := 31) X368 hx hby djdk52m21_30 rfl ?_
 obtain ⟨T374, h374, X374, e374, W374, V374, st374⟩ := own_stB X368 hx hZ e368 f373 (j := (2 : Int32)) ⟨by decide, by decide⟩ 2 (by decide) (by decide : 2 < 3) (g := (mkF m 31 #[.val (.ref ca), .val (.int 2), .val (.ref bd), .val (.int 2), .val (.int 3), .val (.int 2), .val (.int cc2)] [(.int (cc2).toInt8.toInt32), (.int 2), (.ref bd)])) rfl rfl (hb hby djdk52m21_31)
 have N375 := Fr.snoc X374 N369 gd
 have Kp378 : Keep h0 h374 [bd] := Kp372.wr W374 (Or.inl (List.mem_of_getElem? (i := 0) rfl))
 have f379 : Arv Z h374 bd kd .byte (3 : Int32) [(.int ((cc0).toInt8.toInt32).toInt8.toInt32), (.int ((cc1).toInt8.toInt32).toInt8.toInt32), (.int ((cc2).toInt8.toInt32).toInt8.toInt32)] (.int (0 : Int32)) := V374
 refine Rch.st (fun _ k => st374 _ k) ?_
 show Rch p e below T374 (mkF m 32 #[.val (.ref ca), .val (.int 2), .val (.ref bd), .val (.int 2), .val (.int 3), .val (.int 2), .val (.int cc2)] []) _
 refine w_iinc (pc' := 35) (w := (3 : Int32)) (l' := #[.val (.ref ca), .val (.int (3 : Int32)), .val (.ref bd), .val (.int (2 : Int32)), .val (.int (3 : Int32)), .val (.int (2 : Int32)), .val (.int cc2)]) X374 hx hby djdk52m21_32 rfl (by decide) rfl rfl ?_
 refine w_iinc (pc' := 38) (w := (3 : Int32)) (l' := #[.val (.ref ca), .val (.int (3 : Int32)), .val (.ref bd), .val (.int (3 : Int32)), .val (.int (3 : Int32)), .val (.int (2 : Int32)), .val (.int cc2)]) X374 hx hby djdk52m21_35 rfl (by decide) rfl rfl ?_
 refine w_iinc (pc' := 41) (w := (3 : Int32)) (l' := #[.val (.ref ca), .val (.int (3 : Int32)), .val (.ref bd), .val (.int (3 : Int32)), .val (.int (3 : Int32)), .val (.int (3 : Int32)), .val (.int cc2)]) X374 hx hby djdk52m21_38 rfl (by decide) rfl rfl ?_
 refine w_goto (pc' := 3) X374 hx hby djdk52m21_41 (by decide) ?_
 refine w_iload (pc' := 5) X374 hx hby djdk52m21_3 rfl rfl ?_
 refine w_iload (pc' := 7) X374 hx hby djdk52m21_5 rfl rfl ?_
 refine w_icmpYes (pc' := 44) X374 hx hby djdk52m21_7 (XT.ii_ge_t (by decide)) (by decide) ?_
 refine w_iload (pc' := 46) X374 hx hby djdk52m21_44 rfl rfl ?_
 exact Rch.retV X374 hx Bd.returns rfl (Or.inl ⟨rfl, by simp, _, rfl⟩) (hb hby djdk52m21_46) (by rw [e374]; exact ⟨rfl, N375, Kp378, f379⟩) (by decide) (by decide)

theorem ef_rm_cmp3_3 (m : MethodId) (ca : Addr) (kc : ClassId) (cc0 : Int32) (cc1 : Int32) (cc2 : Int32)  : entryFrame m #[(.ref ca), (.int (0 : Int32)), (.int (3 : Int32))] 6 = mkF m 0 #[.val (.ref ca), .val (.int (0 : Int32)), .val (.int (3 : Int32)), .unset, .unset, .unset] [] := by  first | (simp [entryFrame, mkF, argsToLocals, Value.category, maxLocals]; done) | rfl
def Q_rm_cmp3_3 (Z : State) (ca : Addr) (kc : ClassId) (cc0 : Int32) (cc1 : Int32) (cc2 : Int32) (h0 : Heap) (n0 : Nat) (v : Option Value) (h : Heap) (L : List Loc) : Prop := ∃ (t : Addr) (kt : ClassId), (v = some (.ref t)) ∧ (Fr n0 L) ∧ (Keep h0 h []) ∧ (h0.size ≤ t) ∧ (Arv Z h t kt .byte (3 : Int32) [(.int (own_by cc0)), (.int (own_by cc1)), (.int (own_by cc2))] (.int (0 : Int32)))
set_option maxRecDepth 65536 in
set_option maxHeartbeats 40000000 in
theorem rm_cmp3_3 (l : Launch) (Z : State) (a0 : Array Value) (hw : ∀ d ∈ tables_1, d.before a0 Z = true) (ws : List Jvm.Cond) (ca : Addr) (kc : ClassId) (cc0 : Int32) (cc1 : Int32) (cc2 : Int32) (h0 : Heap) (n0 : Nat) (Z0 : n0 ≤ h0.size) (f0 : Arv Z h0 ca kc .char (3 : Int32) [(.int cc0), (.int cc1), (.int cc2)] (.int (0 : Int32))) (hg0 : ¬ (255 : Int32) < cc0) (hg1 : ¬ (255 : Int32) < cc1) (hg2 : ¬ (255 : Int32) < cc2) :
    MetFree l (⟨"java/lang/StringUTF16", "compress", "([CII)[B"⟩ : MethodName) (head1 (Jvm.Cond.code (⟨"java/lang/StringUTF16", "compress", "([CII)[B"⟩ : MethodName) jdk_52_method_16_code 6 (some (.array .byte)) :: ws) ({ frames := 1, cells := 1, slots := 3, locals := 18 } : Room)) (fun a U => a = #[(.ref ca), (.int (0 : Int32)), (.int (3 : Int32))] ∧ Z.Warmed39 U.vm ∧ U.heap = h0) (fun _ _ _ _ _ => True) (fun _ U o U' => ∃ v L, o = .returned v ∧ Q_rm_cmp3_3 Z ca kc cc0 cc1 cc2 h0 n0 v U'.heap L ∧ FrameEnd U o U' L ({ frames := 1, cells := 1, slots := 3, locals := 18 } : Room).cells ({ frames := 1, cells := 1, slots := 3, locals := 18 } : Room).slots) := by
 refine MetFree.of_bodySF (plainFor_of_name pn_java_lang_StringUTF16) hisR ?_
 intro p e s m args below meth c s₁ Bd hml0 hP hK
 obtain ⟨rfl, hZ, hh⟩ := hP
 have hx := Bd.exec
 have hby := Bd.bytes
 have hml : c.maxLocals = 6 := hml0
 have hown : s.vm.findClass "java/lang/StringUTF16" = some m.cls := findClass_of_methodNamed Bd.named
 have hnm := (name_of_methodNamed Bd.named Bd.method).1
 have X0 : Stand p l e ({ frames := 1, cells := 1, slots := 3, locals := 18 } : Room) s m #[(.ref ca), (.int (0 : Int32)), (.int (3 : Int32))] below meth c s₁ [] 0 0 := Stand.of_body Bd
 have e0 : s₁.heap = h0 := by rw [← hh, Bd.state]; rfl
 have N0 := Fr.nil n0
 have K00 : Keep h0 h0 [] := Keep.refl _ _
 show Rch p e below s₁ (entryFrame m #[(.ref ca), (.int (0 : Int32)), (.int (3 : Int32))] 6) (FinP s (Q_rm_cmp3_3 Z ca kc cc0 cc1 cc2 h0 n0) 1 3)
 refine Rch.cast (ef_rm_cmp3_3 m ca kc cc0 cc1 cc2) ?_
 show Rch p e below s₁ (mkF m 0 #[.val (.ref ca), .val (.int 0), .val (.int 3), .unset, .unset, .unset] []) _
 refine w_iloadN (pc' := 1) X0 hx hby djdk52m16_0 rfl rfl ?_
 obtain ⟨T380, h380, kc380, X380, e380, E380, A380, st380⟩ := newP X0 hx hZ (wi hw 8 rfl) e0 (g := (mkF m 1 #[.val (.ref ca), .val (.int 0), .val (.int 3), .unset, .unset, .unset] [(.int 3)])) rfl (hb hby djdk52m16_1) rfl (by decide : ¬ ((3 : Int32) < (0 : Int32))) (cap := 3) (by decide : (3 : Int32).toNatClampNeg ≤ 3) (by decide) (by decide) (by decide)
 obtain ⟨a380, g380⟩ : ∃ z, z = h0.size := ⟨_, rfl⟩
 rw [← g380] at A380 st380
 have ne381 : ca ≠ a380 := by rw [g380]; exact Nat.ne_of_lt f0.lt
 have ge382 : n0 ≤ a380 := Nat.le_trans Z0 (Nat.le_of_eq g380.symm)
 have f384 := f0.ext E380
 have Z385 := Nat.le_trans Z0 E380.1
 have Kp386 : Keep h0 h380 [] := K00.ext E380
 have f387 : Arv Z h380 a380 kc380 .byte (3 : Int32) [(.int (0 : Int32)), (.int (0 : Int32)), (.int (0 : Int32))] (.int (0 : Int32)) := (Arv.new A380 (by decide : ¬ ((3 : Int32) < (0 : Int32)))).pad (pad_rep [] (.int (0 : Int32)) 3)
 refine Rch.st (fun _ k => st380 _ k) ?_
 show Rch p e below T380 (mkF m 3 #[.val (.ref ca), .val (.int 0), .val (.int 3), .unset, .unset, .unset] [(.ref a380)]) _
 refine w_astoreN (pc' := 4) (l' := #[.val (.ref ca), .val (.int 0), .val (.int 3), .val (.ref a380), .unset, .unset]) X380 hx hby djdk52m16_3 rfl rfl rfl ?_
 refine w_aloadN (pc' := 5) X380 hx hby djdk52m16_4 rfl rfl rfl ?_
 refine w_iloadN (pc' := 6) X380 hx hby djdk52m16_5 rfl rfl ?_
 refine w_aloadN (pc' := 7) X380 hx hby djdk52m16_6 rfl rfl rfl ?_
 refine w_iconst (pc' := 8) (v := 0) X380 hx hby djdk52m16_7 rfl rfl ?_
 refine w_iloadN (pc' := 9) X380 hx hby djdk52m16_8 rfl rfl ?_
 obtain ⟨_, _, ⟨T388, L388, k388, n388⟩, -, X388, ⟨Lc388, hQ388, l388, y388, z388⟩, st388⟩ := Jvm.LawKit.callS X380 hx (y := (⟨"java/lang/StringUTF16", "compress", "([CI[BII)I"⟩ : MethodName)) hown (mvT hZ (wi hw 182 rfl)) (mvT hZ (wi hw 183 rfl)) (mvT hZ (wi hw 180 rfl)) (mvT hZ (wi hw 184 rfl)) (by decide) (backOf (W := 0) (rm_cmp5_3 l Z a0 hw [] ca kc a380 kc380 cc0 cc1 cc2 h380 n0 Z385 f384 f387 (ge382) (ne381) (hg0) (hg1) (hg2)) hZ (wi hw 184 rfl) (wi hw 180 rfl) (by decide) (by decide)) (g := (mkF m 9 #[.val (.ref ca), .val (.int 0), .val (.int 3), .val (.ref a380), .unset, .unset] [(.int 3), (.int 0), (.ref a380), (.int 0), (.ref ca)])) rfl (by rw [hml]; rfl) (argsL := [(.ref ca), (.int 0), (.ref a380), (.int 0), (.int 3)]) (rest := []) (lenOf pd___CI_BII_I rfl) rfl (by show 2 * 0 + _ ≤ _; exact Nat.le_of_eq rfl) (hb hby djdk52m16_9) (fun _ _ => ⟨rfl, e380, (by decide : 1 + 0 ≤ _), (by decide : 3 + 0 ≤ _)⟩)
 dsimp only [Pt.U, Pt.locs, Pt.cells, Pt.slots] at X388 l388 y388 z388 st388 hQ388
 subst l388 y388 z388
 obtain ⟨rfl, NQ388, K388, fq388_0⟩ := hQ388
 have N389 := Fr.app N0 NQ388
 have Kp391 : Keep h0 T388.heap [] := Kp386.trans K388 (allS (Or.inr (Nat.le_trans K00.1 (Nat.le_of_eq g380.symm))) all0)
 refine Rch.st (fun _ k => st388 _ k) ?_
 show Rch p e below T388 (mkF m 12 #[.val (.ref ca), .val (.int 0), .val (.int 3), .val (.ref a380), .unset, .unset] [(.int 3)]) _
 refine w_istore (pc' := 14) (l' := #[.val (.ref ca), .val (.int 0), .val (.int 3), .val (.ref a380), .val (.int 3), .unset]) X388 hx hby djdk52m16_12 rfl rfl ?_
 refine w_iload (pc' := 16) X388 hx hby djdk52m16_14 rfl rfl ?_
 refine w_iloadN (pc' := 17) X388 hx hby djdk52m16_16 rfl rfl ?_
 refine w_icmpYes (pc' := 57) X388 hx hby djdk52m16_17 (XT.ii_eq_t (rfl)) (by decide) ?_
 refine w_aloadN (pc' := 58) X388 hx hby djdk52m16_57 rfl rfl rfl ?_
 exact Rch.retV X388 hx Bd.returns rfl (Or.inr (Or.inr (Or.inr (Or.inr ⟨rfl, rfl, rfl⟩)))) (hb hby djdk52m16_58) (by rw [(rfl : T388.heap = T388.heap)]; exact ⟨a380, kc380, rfl, N389, Kp391, (Nat.le_trans K00.1 (Nat.le_of_eq g380.symm)), fq388_0⟩) (by decide) (by decide)

theorem ef_rm_init4_3 (m : MethodId) (G1 : Int32) (a5 : Addr) (ca : Addr) (kc : ClassId) (cc0 : Int32) (cc1 : Int32) (cc2 : Int32)  : entryFrame m #[(.ref a5), (.ref ca), (.int (0 : Int32)), (.int (3 : Int32)), .null] 6 = mkF m 0 #[.val (.ref a5), .val (.ref ca), .val (.int (0 : Int32)), .val (.int (3 : Int32)), .val .null, .unset] [] := by  first | (simp [entryFrame, mkF, argsToLocals, Value.category, maxLocals]; done) | rfl
def Q_rm_init4_3 (Z : State) (G1 : Int32) (a5 : Addr) (ca : Addr) (kc : ClassId) (cc0 : Int32) (cc1 : Int32) (cc2 : Int32) (h0 : Heap) (n0 : Nat) (v : Option Value) (h : Heap) (L : List Loc) : Prop := ∃ (t : Addr) (kt : ClassId), (v = none) ∧ (Fr n0 L) ∧ (Keep h0 h [a5]) ∧ (h0.size ≤ t) ∧ (Fld Z h a5 "java/lang/String" "coder" "B" (.int (0 : Int32))) ∧ (Fld Z h a5 "java/lang/String" "value" "[B" (.ref t)) ∧ (Arv Z h t kt .byte (3 : Int32) [(.int (own_by cc0)), (.int (own_by cc1)), (.int (own_by cc2))] (.int (0 : Int32)))
set_option maxRecDepth 65536 in
set_option maxHeartbeats 40000000 in
theorem rm_init4_3 (l : Launch) (Z : State) (a0 : Array Value) (hw : ∀ d ∈ tables_1, d.before a0 Z = true) (ws : List Jvm.Cond) (G1 : Int32) (a5 : Addr) (ca : Addr) (kc : ClassId) (cc0 : Int32) (cc1 : Int32) (cc2 : Int32) (h0 : Heap) (n0 : Nat) (Z0 : n0 ≤ h0.size) (O2 : Sta Z Z.heap "java/lang/String" "COMPACT_STRINGS" "Z" (.int G1)) (P5 : ¬ G1 = 0) (f2 : Exa Z h0 a5 "java/lang/String") (f3 : Fld Z h0 a5 "java/lang/String" "coder" "B" (.int (0 : Int32))) (f4 : Fld Z h0 a5 "java/lang/String" "value" "[B" .null) (f5 : Arv Z h0 ca kc .char (3 : Int32) [(.int cc0), (.int cc1), (.int cc2)] (.int (0 : Int32))) (ga : n0 ≤ a5) (nca : a5 ≠ ca) (hg0 : ¬ (255 : Int32) < cc0) (hg1 : ¬ (255 : Int32) < cc1) (hg2 : ¬ (255 : Int32) < cc2) (Old0 : OldL Z n0 h0) :
    MetFree l (⟨"java/lang/String", "<init>", "([CIILjava/lang/Void;)V"⟩ : MethodName) (head1 (Jvm.Cond.code (⟨"java/lang/String", "<init>", "([CIILjava/lang/Void;)V"⟩ : MethodName) jdk_42_method_149_code 6 none :: ws) ({ frames := 2, cells := 1, slots := 3, locals := 35 } : Room)) (fun a U => a = #[(.ref a5), (.ref ca), (.int (0 : Int32)), (.int (3 : Int32)), .null] ∧ Z.Warmed39 U.vm ∧ U.heap = h0) (fun _ _ _ _ _ => True) (fun _ U o U' => ∃ v L, o = .returned v ∧ Q_rm_init4_3 Z G1 a5 ca kc cc0 cc1 cc2 h0 n0 v U'.heap L ∧ FrameEnd U o U' L ({ frames := 2, cells := 1, slots := 3, locals := 35 } : Room).cells ({ frames := 2, cells := 1, slots := 3, locals := 35 } : Room).slots) := by
 refine MetFree.of_bodySF (plainFor_of_name pn_java_lang_String) hisR ?_
 intro p e s m args below meth c s₁ Bd hml0 hP hK
 obtain ⟨rfl, hZ, hh⟩ := hP
 have hx := Bd.exec
 have hby := Bd.bytes
 have hml : c.maxLocals = 6 := hml0
 have hown : s.vm.findClass "java/lang/String" = some m.cls := findClass_of_methodNamed Bd.named
 have hnm := (name_of_methodNamed Bd.named Bd.method).1
 have X0 : Stand p l e ({ frames := 2, cells := 1, slots := 3, locals := 35 } : Room) s m #[(.ref a5), (.ref ca), (.int (0 : Int32)), (.int (3 : Int32)), .null] below meth c s₁ [] 0 0 := Stand.of_body Bd
 have e0 : s₁.heap = h0 := by rw [← hh, Bd.state]; rfl
 have N0 := Fr.nil n0
 have K00 : Keep h0 h0 [a5] := Keep.refl _ _
 show Rch p e below s₁ (entryFrame m #[(.ref a5), (.ref ca), (.int (0 : Int32)), (.int (3 : Int32)), .null] 6) (FinP s (Q_rm_init4_3 Z G1 a5 ca kc cc0 cc1 cc2 h0 n0) 1 3)
 refine Rch.cast (ef_rm_init4_3 m G1 a5 ca kc cc0 cc1 cc2) ?_
 show Rch p e below s₁ (mkF m 0 #[.val (.ref a5), .val (.ref ca), .val (.int 0), .val (.int 3), .val .null, .unset] []) _
 refine w_aloadN (pc' := 1) X0 hx hby djdk42m149_0 rfl rfl rfl ?_
 obtain ⟨T393, X393, e393, st393⟩ := initO X0 hx hZ hown (wi hw 119 rfl) (wi hw 25 rfl) (wi hw 26 rfl) e0 (g := (mkF m 1 #[.val (.ref a5), .val (.ref ca), .val (.int 0), .val (.int 3), .val .null, .unset] [(.ref a5)])) rfl (by rw [hml]; rfl) rfl (hb hby djdk42m149_1) (by decide) (W := 0) (by show 2 * 0 + _ ≤ _; exact Nat.le_of_eq rfl) (by decide)
 refine Rch.st (fun _ k => st393 _ k) ?_
 show Rch p e below T393 (mkF m 4 #[.val (.ref a5), .val (.ref ca), .val (.int 0), .val (.int 3), .val .null, .unset] []) _
 refine w_iloadN (pc' := 5) X393 hx hby djdk42m149_4 rfl rfl ?_
 refine w_ifYes (pc' := 27) X393 hx hby djdk42m149_5 (XT.i0_ne_t (by decide)) (by decide) ?_
 obtain ⟨T394, X394, e394, st394⟩ := getS X393 hx hZ hown (host := "") (wi hw 77 rfl) Via.refl e393 (O2.ext Old0.2) (g := (mkF m 27 #[.val (.ref a5), .val (.ref ca), .val (.int 0), .val (.int 3), .val .null, .unset] [])) rfl (hb hby djdk42m149_27)
 refine Rch.st (fun _ k => st394 _ k) ?_
 show Rch p e below T394 (mkF m 30 #[.val (.ref a5), .val (.ref ca), .val (.int 0), .val (.int 3), .val .null, .unset] [(.int G1)]) _
 refine w_ifNo (pc' := 33) X394 hx hby djdk42m149_30 (XT.i0_eq_f (P5)) rfl ?_
 refine w_aloadN (pc' := 34) X394 hx hby djdk42m149_33 rfl rfl rfl ?_
 refine w_iloadN (pc' := 35) X394 hx hby djdk42m149_34 rfl rfl ?_
 refine w_iloadN (pc' := 36) X394 hx hby djdk42m149_35 rfl rfl ?_
 obtain ⟨_, _, ⟨T395, L395, k395, n395⟩, -, X395, ⟨Lc395, hQ395, l395, y395, z395⟩, st395⟩ := Jvm.LawKit.callS X394 hx (y := (⟨"java/lang/StringUTF16", "compress", "([CII)[B"⟩ : MethodName)) hown (mvT hZ (wi hw 178 rfl)) (mvT hZ (wi hw 179 rfl)) (mvT hZ (wi hw 180 rfl)) (mvT hZ (wi hw 181 rfl)) (by decide) (backOf (W := 0) (rm_cmp3_3 l Z a0 hw [] ca kc cc0 cc1 cc2 h0 n0 Z0 f5 (hg0) (hg1) (hg2)) hZ (wi hw 181 rfl) (wi hw 180 rfl) (by decide) (by decide)) (g := (mkF m 36 #[.val (.ref a5), .val (.ref ca), .val (.int 0), .val (.int 3), .val .null, .unset] [(.int 3), (.int 0), (.ref ca)])) rfl (by rw [hml]; rfl) (argsL := [(.ref ca), (.int 0), (.int 3)]) (rest := []) (lenOf pd___CII__B rfl) rfl (by show 2 * 0 + _ ≤ _; exact Nat.le_of_eq rfl) (hb hby djdk42m149_36) (fun _ _ => ⟨rfl, e394, (by decide : 0 + 1 ≤ _), (by decide : 0 + 3 ≤ _)⟩)
 dsimp only [Pt.U, Pt.locs, Pt.cells, Pt.slots] at X395 l395 y395 z395 st395 hQ395
 subst l395 y395 z395
 obtain ⟨t_395, kt_395, rfl, NQ395, K395, pq395_0, fq395_0⟩ := hQ395
 have N396 := Fr.app N0 NQ395
 have ne397 := nlt f2.lt pq395_0
 have f400 := f2.keep K395
 have f401 := f3.keep K395 nin0
 have f402 := f4.keep K395 nin0
 have Kp405 : Keep h0 T395.heap [a5] := K00.trans K395 all0
 have Z406 := Nat.le_trans Z0 K395.1
 refine Rch.st (fun _ k => st395 _ k) ?_
 show Rch p e below T395 (mkF m 39 #[.val (.ref a5), .val (.ref ca), .val (.int 0), .val (.int 3), .val .null, .unset] [(.ref t_395)]) _
 refine w_astore (pc' := 41) (l' := #[.val (.ref a5), .val (.ref ca), .val (.int 0), .val (.int 3), .val .null, .val (.ref t_395)]) X395 hx hby djdk42m149_39 rfl rfl rfl ?_
 refine w_aloadN (pc' := 42) X395 hx hby djdk42m149_41 rfl rfl rfl ?_
 refine w_aload (pc' := 44) X395 hx hby djdk42m149_42 rfl rfl rfl ?_
 refine w_iloadN (pc' := 45) X395 hx hby djdk42m149_44 rfl rfl ?_
 obtain ⟨_, _, ⟨T407, L407, k407, n407⟩, -, X407, ⟨Lc407, hQ407, l407, y407, z407⟩, st407⟩ := Jvm.LawKit.callS X395 hx (y := (⟨"java/lang/StringUTF16", "coderFromArrayLen", "([BI)B"⟩ : MethodName)) hown (mvT hZ (wi hw 185 rfl)) (mvT hZ (wi hw 186 rfl)) (mvT hZ (wi hw 180 rfl)) (mvT hZ (wi hw 187 rfl)) (by decide) (backOf (W := 1) (rm_cfl l Z a0 hw [] t_395 kt_395 3 3 ([(.int (own_by cc0)), (.int (own_by cc1)), (.int (own_by cc2))]) (.int 0) T395.heap n0 Z406 fq395_0) hZ (wi hw 187 rfl) (wi hw 180 rfl) (by decide) (by decide)) (g := (mkF m 45 #[.val (.ref a5), .val (.ref ca), .val (.int 0), .val (.int 3), .val .null, .val (.ref t_395)] [(.int 3), (.ref t_395), (.ref a5)])) rfl (by rw [hml]; rfl) (argsL := [(.ref t_395), (.int 3)]) (rest := [(.ref a5)]) (lenOf pd___BI_B rfl) rfl (by show 2 * 0 + _ ≤ _; exact Nat.le_of_eq rfl) (hb hby djdk42m149_45) (fun _ _ => ⟨rfl, (rfl : T395.heap = T395.heap), (by decide : 1 + 0 ≤ _), (by decide : 3 + 0 ≤ _)⟩)
 dsimp only [Pt.U, Pt.locs, Pt.cells, Pt.slots] at X407 l407 y407 z407 st407 hQ407
 subst l407 y407 z407
 obtain ⟨rfl, NQ407, K407⟩ := hQ407
 have N408 := Fr.app N396 NQ407
 refine Rch.st (fun _ k => st407 _ k) ?_
 show Rch p e below T407 (mkF m 48 #[.val (.ref a5), .val (.ref ca), .val (.int 0), .val (.int 3), .val .null, .val (.ref t_395)] [(.int ((XT.ushr ((3 : Int32) - (3 : Int32)) (31 : Int32))).toInt8.toInt32), (.ref a5)]) _
 have r409 : ((XT.ushr ((3 : Int32) - (3 : Int32)) (31 : Int32))).toInt8.toInt32 = (0 : Int32) := by decide
 rw [r409]
 show Rch p e below T407 (mkF m 48 #[.val (.ref a5), .val (.ref ca), .val (.int 0), .val (.int 3), .val .null, .val (.ref t_395)] [(.int 0), (.ref a5)]) _
 obtain ⟨T410, h410, X410, e410, W410, st410⟩ := putF X407 hx hZ hown (host := "") (Or.inl (wi hw 78 rfl)) Via.refl K407 f401 f400 (Or.inr ⟨(wi hw 10 rfl), rfl, hnm⟩) (wi hw 7 rfl) (ty := .byte) (by decide) rfl rfl (g := (mkF m 48 #[.val (.ref a5), .val (.ref ca), .val (.int 0), .val (.int 3), .val .null, .val (.ref t_395)] [(.int 0), (.ref a5)])) rfl rfl (hb hby djdk42m149_48)
 have N411 := Fr.snoc X410 N408 ga
 have f412 := f400.wr W410
 have f413 := f401.same W410
 have f414 := f402.other W410 (Or.inr (slot_ne (t := (.array .byte)) (t' := .byte) (Or.inr (wi hw 9 rfl)) (Or.inr (wi hw 10 rfl)) (by decide) (by decide) (by decide)))
 have f416 := fq395_0.other W410 (Ne.symm ne397)
 have Kp419 : Keep h0 h410 [a5] := Kp405.wr W410 (Or.inl (List.mem_of_getElem? (i := 0) rfl))
 refine Rch.st (fun _ k => st410 _ k) ?_
 show Rch p e below T410 (mkF m 51 #[.val (.ref a5), .val (.ref ca), .val (.int 0), .val (.int 3), .val .null, .val (.ref t_395)] []) _
 refine w_aloadN (pc' := 52) X410 hx hby djdk42m149_51 rfl rfl rfl ?_
 refine w_aload (pc' := 54) X410 hx hby djdk42m149_52 rfl rfl rfl ?_
 obtain ⟨T420, h420, X420, e420, W420, st420⟩ := putF X410 hx hZ hown (host := "") (Or.inl (wi hw 71 rfl)) Via.refl e410 f414 f412 (Or.inr ⟨(wi hw 9 rfl), rfl, hnm⟩) (wi hw 7 rfl) (ty := (.array .byte)) (by decide) rfl rfl (g := (mkF m 54 #[.val (.ref a5), .val (.ref ca), .val (.int 0), .val (.int 3), .val .null, .val (.ref t_395)] [(.ref t_395), (.ref a5)])) rfl rfl (hb hby djdk42m149_54)
 have N421 := Fr.snoc X420 N411 ga
 have f423 := f413.other W420 (Or.inr (slot_ne (t := .byte) (t' := (.array .byte)) (Or.inr (wi hw 10 rfl)) (Or.inr (wi hw 9 rfl)) (by decide) (by decide) (by decide)))
 have f424 := f414.same W420
 have f426 := f416.other W420 (Ne.symm ne397)
 have Kp429 : Keep h0 h420 [a5] := Kp419.wr W420 (Or.inl (List.mem_of_getElem? (i := 0) rfl))
 refine Rch.st (fun _ k => st420 _ k) ?_
 show Rch p e below T420 (mkF m 57 #[.val (.ref a5), .val (.ref ca), .val (.int 0), .val (.int 3), .val .null, .val (.ref t_395)] []) _
 exact Rch.ret0 X420 hx Bd.returns (hb hby djdk42m149_57) (by rw [e420]; exact ⟨t_395, kt_395, rfl, N421, Kp429, (Nat.le_trans K00.1 pq395_0), f423, f424, f426⟩) (by decide) (by decide)

theorem ef_rm_init1_3 (m : MethodId) (G1 : Int32) (a5 : Addr) (ca : Addr) (kc : ClassId) (cc0 : Int32) (cc1 : Int32) (cc2 : Int32)  : entryFrame m #[(.ref a5), (.ref ca)] 2 = mkF m 0 #[.val (.ref a5), .val (.ref ca)] [] := by  first | (simp [entryFrame, mkF, argsToLocals, Value.category, maxLocals]; done) | rfl
def Q_rm_init1_3 (Z : State) (G1 : Int32) (a5 : Addr) (ca : Addr) (kc : ClassId) (cc0 : Int32) (cc1 : Int32) (cc2 : Int32) (h0 : Heap) (n0 : Nat) (v : Option Value) (h : Heap) (L : List Loc) : Prop := ∃ (t : Addr) (kt : ClassId), (v = none) ∧ (Fr n0 L) ∧ (Keep h0 h [a5]) ∧ (h0.size ≤ t) ∧ (Fld Z h a5 "java/lang/String" "coder" "B" (.int (0 : Int32))) ∧ (Fld Z h a5 "java/lang/String" "value" "[B" (.ref t)) ∧ (Arv Z h t kt .byte (3 : Int32) [(.int (own_by cc0)), (.int (own_by cc1)), (.int (own_by cc2))] (.int (0 : Int32)))
set_option maxRecDepth 65536 in
set_option maxHeartbeats 40000000 in
theorem rm_init1_3 (l : Launch) (Z : State) (a0 : Array Value) (hw : ∀ d ∈ tables_1, d.before a0 Z = true) (ws : List Jvm.Cond) (G1 : Int32) (a5 : Addr) (ca : Addr) (kc : ClassId) (cc0 : Int32) (cc1 : Int32) (cc2 : Int32) (h0 : Heap) (n0 : Nat) (Z0 : n0 ≤ h0.size) (O2 : Sta Z Z.heap "java/lang/String" "COMPACT_STRINGS" "Z" (.int G1)) (P5 : ¬ G1 = 0) (f2 : Exa Z h0 a5 "java/lang/String") (f3 : Fld Z h0 a5 "java/lang/String" "coder" "B" (.int (0 : Int32))) (f4 : Fld Z h0 a5 "java/lang/String" "value" "[B" .null) (f5 : Arv Z h0 ca kc .char (3 : Int32) [(.int cc0), (.int cc1), (.int cc2)] (.int (0 : Int32))) (ga : n0 ≤ a5) (nca : a5 ≠ ca) (hg0 : ¬ (255 : Int32) < cc0) (hg1 : ¬ (255 : Int32) < cc1) (hg2 : ¬ (255 : Int32) < cc2) (Old0 : OldL Z n0 h0) :
    MetFree l (⟨"java/lang/String", "<init>", "([C)V"⟩ : MethodName) (head1 (Jvm.Cond.code (⟨"java/lang/String", "<init>", "([C)V"⟩ : MethodName) jdk_42_method_3_code 2 none :: ws) ({ frames := 3, cells := 1, slots := 3, locals := 52 } : Room)) (fun a U => a = #[(.ref a5), (.ref ca)] ∧ Z.Warmed39 U.vm ∧ U.heap = h0) (fun _ _ _ _ _ => True) (fun _ U o U' => ∃ v L, o = .returned v ∧ Q_rm_init1_3 Z G1 a5 ca kc cc0 cc1 cc2 h0 n0 v U'.heap L ∧ FrameEnd U o U' L ({ frames := 3, cells := 1, slots := 3, locals := 52 } : Room).cells ({ frames := 3, cells := 1, slots := 3, locals := 52 } : Room).slots) := by
 refine MetFree.of_bodySF (plainFor_of_name pn_java_lang_String) hisR ?_
 intro p e s m args below meth c s₁ Bd hml0 hP hK
 obtain ⟨rfl, hZ, hh⟩ := hP
 have hx := Bd.exec
 have hby := Bd.bytes
 have hml : c.maxLocals = 2 := hml0
 have hown : s.vm.findClass "java/lang/String" = some m.cls := findClass_of_methodNamed Bd.named
 have hnm := (name_of_methodNamed Bd.named Bd.method).1
 have X0 : Stand p l e ({ frames := 3, cells := 1, slots := 3, locals := 52 } : Room) s m #[(.ref a5), (.ref ca)] below meth c s₁ [] 0 0 := Stand.of_body Bd
 have e0 : s₁.heap = h0 := by rw [← hh, Bd.state]; rfl
 have N0 := Fr.nil n0
 have K00 : Keep h0 h0 [a5] := Keep.refl _ _
 show Rch p e below s₁ (entryFrame m #[(.ref a5), (.ref ca)] 2) (FinP s (Q_rm_init1_3 Z G1 a5 ca kc cc0 cc1 cc2 h0 n0) 1 3)
 refine Rch.cast (ef_rm_init1_3 m G1 a5 ca kc cc0 cc1 cc2) ?_
 show Rch p e below s₁ (mkF m 0 #[.val (.ref a5), .val (.ref ca)] []) _
 refine w_aloadN (pc' := 1) X0 hx hby djdk42m3_0 rfl rfl rfl ?_
 refine w_aloadN (pc' := 2) X0 hx hby djdk42m3_1 rfl rfl rfl ?_
 refine w_iconst (pc' := 3) (v := 0) X0 hx hby djdk42m3_2 rfl rfl ?_
 refine w_aloadN (pc' := 4) X0 hx hby djdk42m3_3 rfl rfl rfl ?_
 refine Rch.st (fun _ k => own_alen X0 hx hZ e0 f5 rfl rfl (hb hby djdk42m3_4) k) ?_
 show Rch p e below s₁ (mkF m 5 #[.val (.ref a5), .val (.ref ca)] [(.int 3), (.int 0), (.ref ca), (.ref a5)]) _
 refine w_aconstNull (pc' := 6) X0 hx hby djdk42m3_5 rfl ?_
 obtain ⟨_, _, ⟨T430, L430, k430, n430⟩, -, X430, ⟨Lc430, hQ430, l430, y430, z430⟩, st430⟩ := X0.specialBack hx (y := (⟨"java/lang/String", "<init>", "([CIILjava/lang/Void;)V"⟩ : MethodName)) rfl hown (mvT hZ (wi hw 175 rfl)) (mvT hZ (wi hw 176 rfl)) (mvT hZ (wi hw 177 rfl)) (by decide) (backOf (W := 0) (rm_init4_3 l Z a0 hw [] G1 a5 ca kc cc0 cc1 cc2 h0 n0 Z0 (O2) (P5) f2 f3 f4 f5 (ga) (nca) (hg0) (hg1) (hg2) Old0) hZ (wi hw 177 rfl) (wi hw 6 rfl) (by decide) (by decide)) (g := (mkF m 6 #[.val (.ref a5), .val (.ref ca)] [.null, (.int 3), (.int 0), (.ref ca), (.ref a5)])) rfl (by rw [hml]; rfl) (Steps.refl _) (a := a5) (argsL := [(.ref ca), (.int 0), (.int 3), .null]) (rest := []) (lenOf pd___CIILjava_lang_Void__V rfl) rfl (by show 2 * 0 + _ ≤ _; exact Nat.le_of_eq rfl) (hb hby djdk42m3_6) (fun _ _ => ⟨rfl, e0, (by decide : 0 + 1 ≤ _), (by decide : 0 + 3 ≤ _)⟩)
 dsimp only [Pt.U, Pt.locs, Pt.cells, Pt.slots] at X430 l430 y430 z430 st430 hQ430
 subst l430 y430 z430
 obtain ⟨t_430, kt_430, rfl, NQ430, K430, pq430_0, fq430_0, fq430_1, fq430_2⟩ := hQ430
 have N431 := Fr.app N0 NQ430
 have Kp438 : Keep h0 T430.heap [a5] := K00.trans K430 (allS (Or.inl (List.mem_of_getElem? (i := 0) rfl)) all0)
 refine Rch.st (fun _ k => st430.trans k) ?_
 show Rch p e below T430 (mkF m 9 #[.val (.ref a5), .val (.ref ca)] []) _
 exact Rch.ret0 X430 hx Bd.returns (hb hby djdk42m3_9) (by rw [(rfl : T430.heap = T430.heap)]; exact ⟨t_430, kt_430, rfl, N431, Kp438, (Nat.le_trans K00.1 pq430_0), fq430_0, fq430_1, fq430_2⟩) (by decide) (by decide)

theorem djdk43m3_0 : decode jdk_43_method_3_code 0 = .ok (.iload_n 0, 1) := by decide +kernel
theorem djdk43m3_1 : decode jdk_43_method_3_code 1 = .ok (.sipush 255, 3) := by decide +kernel
theorem djdk43m3_4 : decode jdk_43_method_3_code 4 = .ok (.if_icmp .gt 7, 3) := by decide +kernel
theorem djdk43m3_7 : decode jdk_43_method_3_code 7 = .ok (.iconst 1, 1) := by decide +kernel
theorem djdk43m3_8 : decode jdk_43_method_3_code 8 = .ok (.goto 4, 3) := by decide +kernel
theorem djdk43m3_12 : decode jdk_43_method_3_code 12 = .ok (.ireturn, 1) := by decide +kernel
theorem ef_rm_ce (m : MethodId) (xx : Int32)  : entryFrame m #[(.int xx)] 1 = mkF m 0 #[.val (.int xx)] [] := by  first | (simp [entryFrame, mkF, argsToLocals, Value.category, maxLocals]; done) | rfl
def Q_rm_ce (Z : State) (xx : Int32) (h0 : Heap) (n0 : Nat) (v : Option Value) (h : Heap) (L : List Loc) : Prop := (v = some (.int (1 : Int32))) ∧ (Fr n0 L) ∧ (h = h0)
set_option maxRecDepth 65536 in
set_option maxHeartbeats 40000000 in
theorem rm_ce (l : Launch) (Z : State) (a0 : Array Value) (hw : ∀ d ∈ tables_1, d.before a0 Z = true) (ws : List Jvm.Cond) (xx : Int32) (h0 : Heap) (n0 : Nat) (Z0 : n0 ≤ h0.size) (hx8 : ¬ (255 : Int32) < xx) :
    MetFree l (⟨"java/lang/StringLatin1", "canEncode", "(C)Z"⟩ : MethodName) (head1 (Jvm.Cond.code (⟨"java/lang/StringLatin1", "canEncode", "(C)Z"⟩ : MethodName) jdk_43_method_3_code 1 (some .boolean) :: ws) ({ frames := 0, cells := 0, slots := 0, locals := 0 } : Room)) (fun a U => a = #[(.int xx)] ∧ Z.Warmed39 U.vm ∧ U.heap = h0) (fun _ _ _ _ _ => True) (fun _ U o U' => ∃ v L, o = .returned v ∧ Q_rm_ce Z xx h0 n0 v U'.heap L ∧ FrameEnd U o U' L ({ frames := 0, cells := 0, slots := 0, locals := 0 } : Room).cells ({ frames := 0, cells := 0, slots := 0, locals := 0 } : Room).slots) := by
 refine MetFree.of_bodySF (plainFor_of_name pn_java_lang_StringLatin1) hisR ?_
 intro p e s m args below meth c s₁ Bd hml0 hP hK
 obtain ⟨rfl, hZ, hh⟩ := hP
 have hx := Bd.exec
 have hby := Bd.bytes
 have hml : c.maxLocals = 1 := hml0
 have hown : s.vm.findClass "java/lang/StringLatin1" = some m.cls := findClass_of_methodNamed Bd.named
 have hnm := (name_of_methodNamed Bd.named Bd.method).1
 have X0 : Stand p l e ({ frames := 0, cells := 0, slots := 0, locals := 0 } : Room) s m #[(.int xx)] below meth c s₁ [] 0 0 := Stand.of_body Bd
 have e0 : s₁.heap = h0 := by rw [← hh, Bd.state]; rfl
 have N0 := Fr.nil n0
 have K00 : Keep h0 h0 [] := Keep.refl _ _
 show Rch p e below s₁ (entryFrame m #[(.int xx)] 1) (FinP s (Q_rm_ce Z xx h0 n0) 0 0)
 refine Rch.cast (ef_rm_ce m xx) ?_
 show Rch p e below s₁ (mkF m 0 #[.val (.int xx)] []) _
 refine w_iloadN (pc' := 1) X0 hx hby djdk43m3_0 rfl rfl ?_
 refine w_sipush (pc' := 4) (v := 255) X0 hx hby djdk43m3_1 rfl rfl ?_
 refine w_icmpNo (pc' := 7) X0 hx hby djdk43m3_4 (XT.ii_gt_f (hx8)) rfl ?_
 refine w_iconst (pc' := 8) (v := 1) X0 hx hby djdk43m3_7 rfl rfl ?_
 refine w_goto (pc' := 12) X0 hx hby djdk43m3_8 (by decide) ?_
 exact Rch.retV X0 hx Bd.returns rfl (Or.inl ⟨rfl, by simp, _, rfl⟩) (hb hby djdk43m3_12) (by rw [e0]; exact ⟨rfl, N0, rfl⟩) (by decide) (by decide)

theorem djdk43m46_0 : decode jdk_43_method_46_code 0 = .ok (.iconst 1, 1) := by decide +kernel
theorem djdk43m46_1 : decode jdk_43_method_46_code 1 = .ok (.newarray .byte, 2) := by decide +kernel
theorem djdk43m46_3 : decode jdk_43_method_46_code 3 = .ok (.dup, 1) := by decide +kernel
theorem djdk43m46_4 : decode jdk_43_method_46_code 4 = .ok (.iconst 0, 1) := by decide +kernel
theorem djdk43m46_5 : decode jdk_43_method_46_code 5 = .ok (.iload_n 0, 1) := by decide +kernel
theorem djdk43m46_6 : decode jdk_43_method_46_code 6 = .ok (.i2b, 1) := by decide +kernel
theorem djdk43m46_7 : decode jdk_43_method_46_code 7 = .ok (.bastore, 1) := by decide +kernel
theorem djdk43m46_8 : decode jdk_43_method_46_code 8 = .ok (.areturn, 1) := by decide +kernel
theorem ef_rm_tb (m : MethodId) (xx : Int32)  : entryFrame m #[(.int xx)] 1 = mkF m 0 #[.val (.int xx)] [] := by  first | (simp [entryFrame, mkF, argsToLocals, Value.category, maxLocals]; done) | rfl
def Q_rm_tb (Z : State) (xx : Int32) (h0 : Heap) (n0 : Nat) (v : Option Value) (h : Heap) (L : List Loc) : Prop := ∃ (t : Addr) (kt : ClassId), (v = some (.ref t)) ∧ (Fr n0 L) ∧ (Keep h0 h []) ∧ (h0.size ≤ t) ∧ (Arv Z h t kt .byte (1 : Int32) [(.int (own_by xx))] (.int (0 : Int32)))
set_option maxRecDepth 65536 in
set_option maxHeartbeats 40000000 in
theorem rm_tb (l : Launch) (Z : State) (a0 : Array Value) (hw : ∀ d ∈ tables_1, d.before a0 Z = true) (ws : List Jvm.Cond) (xx : Int32) (h0 : Heap) (n0 : Nat) (Z0 : n0 ≤ h0.size)  :
    MetFree l (⟨"java/lang/StringLatin1", "toBytes", "(C)[B"⟩ : MethodName) (head1 (Jvm.Cond.code (⟨"java/lang/StringLatin1", "toBytes", "(C)[B"⟩ : MethodName) jdk_43_method_46_code 1 (some (.array .byte)) :: ws) ({ frames := 0, cells := 1, slots := 1, locals := 0 } : Room)) (fun a U => a = #[(.int xx)] ∧ Z.Warmed39 U.vm ∧ U.heap = h0) (fun _ _ _ _ _ => True) (fun _ U o U' => ∃ v L, o = .returned v ∧ Q_rm_tb Z xx h0 n0 v U'.heap L ∧ FrameEnd U o U' L ({ frames := 0, cells := 1, slots := 1, locals := 0 } : Room).cells ({ frames := 0, cells := 1, slots := 1, locals := 0 } : Room).slots) := by
 refine MetFree.of_bodySF (plainFor_of_name pn_java_lang_StringLatin1) hisR ?_
 intro p e s m args below meth c s₁ Bd hml0 hP hK
 obtain ⟨rfl, hZ, hh⟩ := hP
 have hx := Bd.exec
 have hby := Bd.bytes
 have hml : c.maxLocals = 1 := hml0
 have hown : s.vm.findClass "java/lang/StringLatin1" = some m.cls := findClass_of_methodNamed Bd.named
 have hnm := (name_of_methodNamed Bd.named Bd.method).1
 have X0 : Stand p l e ({ frames := 0, cells := 1, slots := 1, locals := 0 } : Room) s m #[(.int xx)] below meth c s₁ [] 0 0 := Stand.of_body Bd
 have e0 : s₁.heap = h0 := by rw [← hh, Bd.state]; rfl
 have N0 := Fr.nil n0
 have K00 : Keep h0 h0 [] := Keep.refl _ _
 show Rch p e below s₁ (entryFrame m #[(.int xx)] 1) (FinP s (Q_rm_tb Z xx h0 n0) 1 1)
 refine Rch.cast (ef_rm_tb m xx) ?_
 show Rch p e below s₁ (mkF m 0 #[.val (.int xx)] []) _
 refine w_iconst (pc' := 1) (v := 1) X0 hx hby djdk43m46_0 rfl rfl ?_
 obtain ⟨T440, h440, kc440, X440, e440, E440, A440, st440⟩ := newP X0 hx hZ (wi hw 8 rfl) e0 (g := (mkF m 1 #[.val (.int xx)] [(.int 1)])) rfl (hb hby djdk43m46_1) rfl (by decide : ¬ ((1 : Int32) < (0 : Int32))) (cap := 1) (by decide : (1 : Int32).toNatClampNeg ≤ 1) (by decide) (by decide) (by decide)
 obtain ⟨a440, g440⟩ : ∃ z, z = h0.size := ⟨_, rfl⟩
 rw [← g440] at A440 st440
 have ge441 : n0 ≤ a440 := Nat.le_trans Z0 (Nat.le_of_eq g440.symm)
 have Kp444 : Keep h0 h440 [] := K00.ext E440
 have f445 : Arv Z h440 a440 kc440 .byte (1 : Int32) [(.int (0 : Int32))] (.int (0 : Int32)) := (Arv.new A440 (by decide : ¬ ((1 : Int32) < (0 : Int32)))).pad (pad_rep [] (.int (0 : Int32)) 1)
 refine Rch.st (fun _ k => st440 _ k) ?_
 show Rch p e below T440 (mkF m 3 #[.val (.int xx)] [(.ref a440)]) _
 refine w_dup (pc' := 4) X440 hx hby djdk43m46_3 rfl rfl ?_
 refine w_iconst (pc' := 5) (v := 0) X440 hx hby djdk43m46_4 rfl rfl ?_
 refine w_iloadN (pc' := 6) X440 hx hby djdk43m46_5 rfl rfl ?_
 refine w_i2b (pc' := 7) X440 hx hby djdk43m46_6 rfl ?_
 obtain ⟨T446, h446, X446, e446, W446, V446, st446⟩ := own_stB X440 hx hZ e440 f445 (j := (0 : Int32)) ⟨by decide, by decide⟩ 0 (by decide) (by decide : 0 < 1) (g := (mkF m 7 #[.val (.int xx)] [(.int (xx).toInt8.toInt32), (.int 0), (.ref a440), (.ref a440)])) rfl rfl (hb hby djdk43m46_7)
 have N447 := Fr.snoc X446 N0 ge441
 have Kp449 : Keep h0 h446 [] := Kp444.wr W446 (Or.inr (Nat.le_trans K00.1 (Nat.le_of_eq g440.symm)))
 have f450 : Arv Z h446 a440 kc440 .byte (1 : Int32) [(.int ((xx).toInt8.toInt32).toInt8.toInt32)] (.int (0 : Int32)) := V446
 refine Rch.st (fun _ k => st446 _ k) ?_
 show Rch p e below T446 (mkF m 8 #[.val (.int xx)] [(.ref a440)]) _
 exact Rch.retV X446 hx Bd.returns rfl (Or.inr (Or.inr (Or.inr (Or.inr ⟨rfl, rfl, rfl⟩)))) (hb hby djdk43m46_8) (by rw [e446]; exact ⟨a440, kc440, rfl, N447, Kp449, (Nat.le_trans K00.1 (Nat.le_of_eq g440.symm)), f450⟩) (by decide) (by decide)

theorem djdk42m139_0 : decode jdk_42_method_139_code 0 = .ok (.getstatic 38, 3) := by decide +kernel
theorem djdk42m139_3 : decode jdk_42_method_139_code 3 = .ok (.ifCond .eq 23, 3) := by decide +kernel
theorem djdk42m139_6 : decode jdk_42_method_139_code 6 = .ok (.iload_n 0, 1) := by decide +kernel
theorem djdk42m139_7 : decode jdk_42_method_139_code 7 = .ok (.invokestatic 1015, 3) := by decide +kernel
theorem djdk42m139_10 : decode jdk_42_method_139_code 10 = .ok (.ifCond .eq 16, 3) := by decide +kernel
theorem djdk42m139_13 : decode jdk_42_method_139_code 13 = .ok (.new 10, 3) := by decide +kernel
theorem djdk42m139_16 : decode jdk_42_method_139_code 16 = .ok (.dup, 1) := by decide +kernel
theorem djdk42m139_17 : decode jdk_42_method_139_code 17 = .ok (.iload_n 0, 1) := by decide +kernel
theorem djdk42m139_18 : decode jdk_42_method_139_code 18 = .ok (.invokestatic 1018, 3) := by decide +kernel
theorem djdk42m139_21 : decode jdk_42_method_139_code 21 = .ok (.iconst 0, 1) := by decide +kernel
theorem djdk42m139_22 : decode jdk_42_method_139_code 22 = .ok (.invokespecial 209, 3) := by decide +kernel
theorem djdk42m139_25 : decode jdk_42_method_139_code 25 = .ok (.areturn, 1) := by decide +kernel
theorem ef_rm_vo (m : MethodId) (G1 : Int32) (xx : Int32)  : entryFrame m #[(.int xx)] 1 = mkF m 0 #[.val (.int xx)] [] := by  first | (simp [entryFrame, mkF, argsToLocals, Value.category, maxLocals]; done) | rfl
def Q_rm_vo (Z : State) (G1 : Int32) (xx : Int32) (h0 : Heap) (n0 : Nat) (v : Option Value) (h : Heap) (L : List Loc) : Prop := ∃ (ra : Addr) (t : Addr) (kt : ClassId), (v = some (.ref ra)) ∧ (Fr n0 L) ∧ (Keep h0 h []) ∧ (h0.size ≤ ra) ∧ (h0.size ≤ t) ∧ (Exa Z h ra "java/lang/String") ∧ (Fld Z h ra "java/lang/String" "coder" "B" (.int (0 : Int32))) ∧ (Fld Z h ra "java/lang/String" "value" "[B" (.ref t)) ∧ (Arv Z h t kt .byte (1 : Int32) [(.int (own_by xx))] (.int (0 : Int32)))
theorem pd__C_Z : parseMethodDescriptor "(C)Z" = some ⟨[.char], (some .boolean)⟩ := by decide +kernel
theorem pd__C__B : parseMethodDescriptor "(C)[B" = some ⟨[.char], (some (.array .byte))⟩ := by decide +kernel
theorem pd___BB_V : parseMethodDescriptor "([BB)V" = some ⟨[(.array .byte), .byte], none⟩ := by decide +kernel
set_option maxRecDepth 65536 in
set_option maxHeartbeats 40000000 in
theorem rm_vo (l : Launch) (Z : State) (a0 : Array Value) (hw : ∀ d ∈ tables_1, d.before a0 Z = true) (ws : List Jvm.Cond) (G1 : Int32) (xx : Int32) (h0 : Heap) (n0 : Nat) (Z0 : n0 ≤ h0.size) (O2 : Sta Z Z.heap "java/lang/String" "COMPACT_STRINGS" "Z" (.int G1)) (P5 : ¬ G1 = 0) (hx8 : ¬ (255 : Int32) < xx) (Old0 : OldL Z n0 h0) :
    MetFree l (⟨"java/lang/String", "valueOf", "(C)Ljava/lang/String;"⟩ : MethodName) (head1 (Jvm.Cond.code (⟨"java/lang/String", "valueOf", "(C)Ljava/lang/String;"⟩ : MethodName) jdk_42_method_139_code 1 (some (.object "java/lang/String")) :: ws) ({ frames := 2, cells := 2, slots := 5, locals := 27 } : Room)) (fun a U => a = #[(.int xx)] ∧ Z.Warmed39 U.vm ∧ U.heap = h0) (fun _ _ _ _ _ => True) (fun _ U o U' => ∃ v L, o = .returned v ∧ Q_rm_vo Z G1 xx h0 n0 v U'.heap L ∧ FrameEnd U o U' L ({ frames := 2, cells := 2, slots := 5, locals := 27 } : Room).cells ({ frames := 2, cells := 2, slots := 5, locals := 27 } : Room).slots) := by
 refine MetFree.of_bodySF (plainFor_of_name pn_java_lang_String) hisR ?_
 intro p e s m args below meth c s₁ Bd hml0 hP hK
 obtain ⟨rfl, hZ, hh⟩ := hP
 have hx := Bd.exec
 have hby := Bd.bytes
 have hml : c.maxLocals = 1 := hml0
 have hown : s.vm.findClass "java/lang/String" = some m.cls := findClass_of_methodNamed Bd.named
 have hnm := (name_of_methodNamed Bd.named Bd.method).1
 have X0 : Stand p l e ({ frames := 2, cells := 2, slots := 5, locals := 27 } : Room) s m #[(.int xx)] below meth c s₁ [] 0 0 := Stand.of_body Bd
 have e0 : s₁.heap = h0 := by rw [← hh, Bd.state]; rfl
 have N0 := Fr.nil n0
 have K00 : Keep h0 h0 [] := Keep.refl _ _
 show Rch p e below s₁ (entryFrame m #[(.int xx)] 1) (FinP s (Q_rm_vo Z G1 xx h0 n0) 2 5)
 refine Rch.cast (ef_rm_vo m G1 xx) ?_
 show Rch p e below s₁ (mkF m 0 #[.val (.int xx)] []) _
 obtain ⟨T451, X451, e451, st451⟩ := getS X0 hx hZ hown (host := "") (wi hw 77 rfl) Via.refl e0 (O2.ext Old0.2) (g := (mkF m 0 #[.val (.int xx)] [])) rfl (hb hby djdk42m139_0)
 refine Rch.st (fun _ k => st451 _ k) ?_
 show Rch p e below T451 (mkF m 3 #[.val (.int xx)] [(.int G1)]) _
 refine w_ifNo (pc' := 6) X451 hx hby djdk42m139_3 (XT.i0_eq_f (P5)) rfl ?_
 refine w_iloadN (pc' := 7) X451 hx hby djdk42m139_6 rfl rfl ?_
 obtain ⟨_, _, ⟨T452, L452, k452, n452⟩, -, X452, ⟨Lc452, hQ452, l452, y452, z452⟩, st452⟩ := Jvm.LawKit.callS X451 hx (y := (⟨"java/lang/StringLatin1", "canEncode", "(C)Z"⟩ : MethodName)) hown (mvT hZ (wi hw 160 rfl)) (mvT hZ (wi hw 161 rfl)) (mvT hZ (wi hw 162 rfl)) (mvT hZ (wi hw 163 rfl)) (by decide) (backOf (W := 0) (rm_ce l Z a0 hw [] xx h0 n0 Z0 (hx8)) hZ (wi hw 163 rfl) (wi hw 162 rfl) (by decide) (by decide)) (g := (mkF m 7 #[.val (.int xx)] [(.int xx)])) rfl (by rw [hml]; rfl) (argsL := [(.int xx)]) (rest := []) (lenOf pd__C_Z rfl) rfl (by show 2 * 0 + _ ≤ _; exact Nat.le_of_eq rfl) (hb hby djdk42m139_7) (fun _ _ => ⟨rfl, e451, (by decide : 0 + 0 ≤ _), (by decide : 0 + 0 ≤ _)⟩)
 dsimp only [Pt.U, Pt.locs, Pt.cells, Pt.slots] at X452 l452 y452 z452 st452 hQ452
 subst l452 y452 z452
 obtain ⟨rfl, NQ452, K452⟩ := hQ452
 have N453 := Fr.app N0 NQ452
 refine Rch.st (fun _ k => st452 _ k) ?_
 show Rch p e below T452 (mkF m 10 #[.val (.int xx)] [(.int 1)]) _
 refine w_ifNo (pc' := 13) X452 hx hby djdk42m139_10 (XT.i0_eq_f (by decide)) rfl ?_
 obtain ⟨T454, h454, X454, e454, E454, A454, D454, -, st454⟩ := newO X452 hx hZ hown (wi hw 164 rfl) (wi hw 7 rfl) (wi hw 6 rfl) K452 (g := (mkF m 13 #[.val (.int xx)] [])) rfl (hb hby djdk42m139_13) (by decide) (by decide)
 obtain ⟨a454, g454⟩ : ∃ z, z = h0.size := ⟨_, rfl⟩
 rw [← g454] at A454 D454 st454
 have ge455 : n0 ≤ a454 := Nat.le_trans Z0 (Nat.le_of_eq g454.symm)
 have Z458 := Nat.le_trans Z0 E454.1
 have Kp459 : Keep h0 h454 [] := K00.ext E454
 have f460 : Fld Z h454 a454 "java/lang/String" "coder" "B" (.int (0 : Int32)) := D454 (Or.inr (wi hw 10 rfl)) (ty := .byte) (by decide)
 have f461 : Fld Z h454 a454 "java/lang/String" "value" "[B" .null := D454 (Or.inr (wi hw 9 rfl)) (ty := (.array .byte)) (by decide)
 refine Rch.st (fun _ k => st454 _ k) ?_
 show Rch p e below T454 (mkF m 16 #[.val (.int xx)] [(.ref a454)]) _
 refine w_dup (pc' := 17) X454 hx hby djdk42m139_16 rfl rfl ?_
 refine w_iloadN (pc' := 18) X454 hx hby djdk42m139_17 rfl rfl ?_
 obtain ⟨_, _, ⟨T462, L462, k462, n462⟩, -, X462, ⟨Lc462, hQ462, l462, y462, z462⟩, st462⟩ := Jvm.LawKit.callS X454 hx (y := (⟨"java/lang/StringLatin1", "toBytes", "(C)[B"⟩ : MethodName)) hown (mvT hZ (wi hw 165 rfl)) (mvT hZ (wi hw 166 rfl)) (mvT hZ (wi hw 162 rfl)) (mvT hZ (wi hw 167 rfl)) (by decide) (backOf (W := 2) (rm_tb l Z a0 hw [] xx h454 n0 Z458 ) hZ (wi hw 167 rfl) (wi hw 162 rfl) (by decide) (by decide)) (g := (mkF m 18 #[.val (.int xx)] [(.int xx), (.ref a454), (.ref a454)])) rfl (by rw [hml]; rfl) (argsL := [(.int xx)]) (rest := [(.ref a454), (.ref a454)]) (lenOf pd__C__B rfl) rfl (by show 2 * 0 + _ ≤ _; exact Nat.le_of_eq rfl) (hb hby djdk42m139_18) (fun _ _ => ⟨rfl, e454, (by decide : 1 + 1 ≤ _), (by decide : 4 + 1 ≤ _)⟩)
 dsimp only [Pt.U, Pt.locs, Pt.cells, Pt.slots] at X462 l462 y462 z462 st462 hQ462
 subst l462 y462 z462
 obtain ⟨t_462, kt_462, rfl, NQ462, K462, pq462_0, fq462_0⟩ := hQ462
 have N463 := Fr.app N453 NQ462
 have ne464 := nlt A454.lt pq462_0
 have f466 := A454.keep K462
 have f467 := f460.keep K462 nin0
 have f468 := f461.keep K462 nin0
 have Kp470 : Keep h0 T462.heap [] := Kp459.trans K462 all0
 have Z471 := Nat.le_trans Z458 K462.1
 refine Rch.st (fun _ k => st462 _ k) ?_
 show Rch p e below T462 (mkF m 21 #[.val (.int xx)] [(.ref t_462), (.ref a454), (.ref a454)]) _
 refine w_iconst (pc' := 22) (v := 0) X462 hx hby djdk42m139_21 rfl rfl ?_
 obtain ⟨_, _, ⟨T472, L472, k472, n472⟩, -, X472, ⟨Lc472, hQ472, l472, y472, z472⟩, st472⟩ := X462.specialBack hx (y := (⟨"java/lang/String", "<init>", "([BB)V"⟩ : MethodName)) rfl hown (mvT hZ (wi hw 168 rfl)) (mvT hZ (wi hw 169 rfl)) (mvT hZ (wi hw 170 rfl)) (by decide) (backOf (W := 1) (rm_BB l Z a0 hw [] a454 t_462 T462.heap n0 Z471 f466 f467 f468 (ge455)) hZ (wi hw 170 rfl) (wi hw 6 rfl) (by decide) (by decide)) (g := (mkF m 22 #[.val (.int xx)] [(.int 0), (.ref t_462), (.ref a454), (.ref a454)])) rfl (by rw [hml]; rfl) (Steps.refl _) (a := a454) (argsL := [(.ref t_462), (.int 0)]) (rest := [(.ref a454)]) (lenOf pd___BB_V rfl) rfl (by show 2 * 0 + _ ≤ _; exact Nat.le_of_eq rfl) (hb hby djdk42m139_22) (fun _ _ => ⟨rfl, (rfl : T462.heap = T462.heap), (by decide : 2 + 0 ≤ _), (by decide : 5 + 0 ≤ _)⟩)
 dsimp only [Pt.U, Pt.locs, Pt.cells, Pt.slots] at X472 l472 y472 z472 st472 hQ472
 subst l472 y472 z472
 obtain ⟨rfl, NQ472, K472, fq472_0, fq472_1⟩ := hQ472
 have N473 := Fr.app N463 NQ472
 have f474 := f466.keep K472
 have f475 := fq462_0.keep K472 (ninS (Ne.symm ne464) nin0)
 have Kp477 : Keep h0 T472.heap [] := Kp470.trans K472 (allS (Or.inr (Nat.le_trans K00.1 (Nat.le_of_eq g454.symm))) all0)
 refine Rch.st (fun _ k => st472.trans k) ?_
 show Rch p e below T472 (mkF m 25 #[.val (.int xx)] [(.ref a454)]) _
 exact Rch.retV X472 hx Bd.returns rfl (Or.inr (Or.inr (Or.inr (Or.inr ⟨rfl, rfl, rfl⟩)))) (hb hby djdk42m139_25) (by rw [(rfl : T472.heap = T472.heap)]; exact ⟨a454, t_462, kt_462, rfl, N473, Kp477, (Nat.le_trans K00.1 (Nat.le_of_eq g454.symm)), (Nat.le_trans Kp459.1 pq462_0), f474, fq472_0, fq472_1, f475⟩) (by decide) (by decide)

theorem dm3_0 : decode method_3_code 0 = .ok (.iload_n 3, 1) := by decide +kernel
theorem dm3_1 : decode method_3_code 1 = .ok (.ifCond .eq 7, 3) := by decide +kernel
theorem dm3_4 : decode method_3_code 4 = .ok (.aload_n 1, 1) := by decide +kernel
theorem dm3_5 : decode method_3_code 5 = .ok (.goto 4, 3) := by decide +kernel
theorem dm3_8 : decode method_3_code 8 = .ok (.aload_n 2, 1) := by decide +kernel
theorem dm3_9 : decode method_3_code 9 = .ok (.astore 4, 2) := by decide +kernel
theorem dm3_11 : decode method_3_code 11 = .ok (.iload_n 0, 1) := by decide +kernel
theorem dm3_12 : decode method_3_code 12 = .ok (.ifCond .ne 6, 3) := by decide +kernel
theorem dm3_15 : decode method_3_code 15 = .ok (.ldc 32, 2) := by decide +kernel
theorem dm3_17 : decode method_3_code 17 = .ok (.areturn, 1) := by decide +kernel
theorem dm3_18 : decode method_3_code 18 = .ok (.iload_n 0, 1) := by decide +kernel
theorem dm3_19 : decode method_3_code 19 = .ok (.iconst 1, 1) := by decide +kernel
theorem dm3_20 : decode method_3_code 20 = .ok (.if_icmp .ne 11, 3) := by decide +kernel
theorem dm3_23 : decode method_3_code 23 = .ok (.aload 4, 2) := by decide +kernel
theorem dm3_25 : decode method_3_code 25 = .ok (.iconst 0, 1) := by decide +kernel
theorem dm3_26 : decode method_3_code 26 = .ok (.caload, 1) := by decide +kernel
theorem dm3_27 : decode method_3_code 27 = .ok (.invokestatic 34, 3) := by decide +kernel
theorem dm3_30 : decode method_3_code 30 = .ok (.areturn, 1) := by decide +kernel
theorem dm3_31 : decode method_3_code 31 = .ok (.iload_n 0, 1) := by decide +kernel
theorem dm3_32 : decode method_3_code 32 = .ok (.iconst 2, 1) := by decide +kernel
theorem dm3_33 : decode method_3_code 33 = .ok (.if_icmp .ne 34, 3) := by decide +kernel
theorem dm3_36 : decode method_3_code 36 = .ok (.iconst 2, 1) := by decide +kernel
theorem dm3_37 : decode method_3_code 37 = .ok (.newarray .char, 2) := by decide +kernel
theorem dm3_39 : decode method_3_code 39 = .ok (.astore 5, 2) := by decide +kernel
theorem dm3_41 : decode method_3_code 41 = .ok (.aload 5, 2) := by decide +kernel
theorem dm3_43 : decode method_3_code 43 = .ok (.iconst 0, 1) := by decide +kernel
theorem dm3_44 : decode method_3_code 44 = .ok (.aload 4, 2) := by decide +kernel
theorem dm3_46 : decode method_3_code 46 = .ok (.iconst 0, 1) := by decide +kernel
theorem dm3_47 : decode method_3_code 47 = .ok (.caload, 1) := by decide +kernel
theorem dm3_48 : decode method_3_code 48 = .ok (.castore, 1) := by decide +kernel
theorem dm3_49 : decode method_3_code 49 = .ok (.aload 5, 2) := by decide +kernel
theorem dm3_51 : decode method_3_code 51 = .ok (.iconst 1, 1) := by decide +kernel
theorem dm3_52 : decode method_3_code 52 = .ok (.aload 4, 2) := by decide +kernel
theorem dm3_54 : decode method_3_code 54 = .ok (.iconst 1, 1) := by decide +kernel
theorem dm3_55 : decode method_3_code 55 = .ok (.caload, 1) := by decide +kernel
theorem dm3_56 : decode method_3_code 56 = .ok (.castore, 1) := by decide +kernel
theorem dm3_57 : decode method_3_code 57 = .ok (.new 23, 3) := by decide +kernel
theorem dm3_60 : decode method_3_code 60 = .ok (.dup, 1) := by decide +kernel
theorem dm3_61 : decode method_3_code 61 = .ok (.aload 5, 2) := by decide +kernel
theorem dm3_63 : decode method_3_code 63 = .ok (.invokespecial 38, 3) := by decide +kernel
theorem dm3_66 : decode method_3_code 66 = .ok (.areturn, 1) := by decide +kernel
theorem dm3_67 : decode method_3_code 67 = .ok (.iconst 3, 1) := by decide +kernel
theorem dm3_68 : decode method_3_code 68 = .ok (.newarray .char, 2) := by decide +kernel
theorem dm3_70 : decode method_3_code 70 = .ok (.astore 5, 2) := by decide +kernel
theorem dm3_72 : decode method_3_code 72 = .ok (.aload 5, 2) := by decide +kernel
theorem dm3_74 : decode method_3_code 74 = .ok (.iconst 0, 1) := by decide +kernel
theorem dm3_75 : decode method_3_code 75 = .ok (.aload 4, 2) := by decide +kernel
theorem dm3_77 : decode method_3_code 77 = .ok (.iconst 0, 1) := by decide +kernel
theorem dm3_78 : decode method_3_code 78 = .ok (.caload, 1) := by decide +kernel
theorem dm3_79 : decode method_3_code 79 = .ok (.castore, 1) := by decide +kernel
theorem dm3_80 : decode method_3_code 80 = .ok (.aload 5, 2) := by decide +kernel
theorem dm3_82 : decode method_3_code 82 = .ok (.iconst 1, 1) := by decide +kernel
theorem dm3_83 : decode method_3_code 83 = .ok (.aload 4, 2) := by decide +kernel
theorem dm3_85 : decode method_3_code 85 = .ok (.iconst 1, 1) := by decide +kernel
theorem dm3_86 : decode method_3_code 86 = .ok (.caload, 1) := by decide +kernel
theorem dm3_87 : decode method_3_code 87 = .ok (.castore, 1) := by decide +kernel
theorem dm3_88 : decode method_3_code 88 = .ok (.aload 5, 2) := by decide +kernel
theorem dm3_90 : decode method_3_code 90 = .ok (.iconst 2, 1) := by decide +kernel
theorem dm3_91 : decode method_3_code 91 = .ok (.aload 4, 2) := by decide +kernel
theorem dm3_93 : decode method_3_code 93 = .ok (.iconst 2, 1) := by decide +kernel
theorem dm3_94 : decode method_3_code 94 = .ok (.caload, 1) := by decide +kernel
theorem dm3_95 : decode method_3_code 95 = .ok (.castore, 1) := by decide +kernel
theorem dm3_96 : decode method_3_code 96 = .ok (.new 23, 3) := by decide +kernel
theorem dm3_99 : decode method_3_code 99 = .ok (.dup, 1) := by decide +kernel
theorem dm3_100 : decode method_3_code 100 = .ok (.aload 5, 2) := by decide +kernel
theorem dm3_102 : decode method_3_code 102 = .ok (.invokespecial 38, 3) := by decide +kernel
theorem dm3_105 : decode method_3_code 105 = .ok (.areturn, 1) := by decide +kernel
theorem pn_com_example_alcance_alcance_IdentifiersQuotedPinLaw : plainName "com/example/alcance/alcance/IdentifiersQuotedPinLaw" = true := by first | (simp [plainName, overriddenIn]; done) | decide +kernel
theorem ef_rm_mk_1_1 (m : MethodId) (G1 : Int32) (qr : Addr) (nr : Addr) (kq : ClassId) (qa : Int32) (qb : Int32)  : entryFrame m #[(.int (1 : Int32)), (.ref qr), (.ref nr), (.int (1 : Int32))] 6 = mkF m 0 #[.val (.int (1 : Int32)), .val (.ref qr), .val (.ref nr), .val (.int (1 : Int32)), .unset, .unset] [] := by  first | (simp [entryFrame, mkF, argsToLocals, Value.category, maxLocals]; done) | rfl
def Q_rm_mk_1_1 (Z : State) (G1 : Int32) (qr : Addr) (nr : Addr) (kq : ClassId) (qa : Int32) (qb : Int32) (h0 : Heap) (n0 : Nat) (v : Option Value) (h : Heap) (L : List Loc) : Prop := ∃ (ra : Addr) (t : Addr) (kt : ClassId), (v = some (.ref ra)) ∧ (Fr n0 L) ∧ (Keep h0 h []) ∧ (h0.size ≤ ra) ∧ (h0.size ≤ t) ∧ (Exa Z h ra "java/lang/String") ∧ (Fld Z h ra "java/lang/String" "coder" "B" (.int (0 : Int32))) ∧ (Fld Z h ra "java/lang/String" "value" "[B" (.ref t)) ∧ (Arv Z h t kt .byte (1 : Int32) [(.int (own_by qa))] (.int (0 : Int32)))
theorem pd__C_Ljava_lang_String_ : parseMethodDescriptor "(C)Ljava/lang/String;" = some ⟨[.char], (some (.object "java/lang/String"))⟩ := by decide +kernel
set_option maxRecDepth 65536 in
set_option maxHeartbeats 40000000 in
theorem rm_mk_1_1 (l : Launch) (Z : State) (a0 : Array Value) (hw : ∀ d ∈ tables_1, d.before a0 Z = true) (ws : List Jvm.Cond) (G1 : Int32) (qr : Addr) (nr : Addr) (kq : ClassId) (qa : Int32) (qb : Int32) (h0 : Heap) (n0 : Nat) (Z0 : n0 ≤ h0.size) (O2 : Sta Z Z.heap "java/lang/String" "COMPACT_STRINGS" "Z" (.int G1)) (P5 : ¬ G1 = 0) (f2 : Arv Z h0 qr kq .char (2 : Int32) [(.int qa), (.int qb)] (.int (0 : Int32))) (ch_qa : Ch8 qa) (Old0 : OldL Z n0 h0) :
    MetFree l (⟨"com/example/alcance/alcance/IdentifiersQuotedPinLaw", "make", "(I[C[CZ)Ljava/lang/String;"⟩ : MethodName) (head1 (Jvm.Cond.code (⟨"com/example/alcance/alcance/IdentifiersQuotedPinLaw", "make", "(I[C[CZ)Ljava/lang/String;"⟩ : MethodName) method_3_code 6 (some (.object "java/lang/String")) :: ws) ({ frames := 3, cells := 2, slots := 5, locals := 39 } : Room)) (fun a U => a = #[(.int (1 : Int32)), (.ref qr), (.ref nr), (.int (1 : Int32))] ∧ Z.Warmed39 U.vm ∧ U.heap = h0) (fun _ _ _ _ _ => True) (fun _ U o U' => ∃ v L, o = .returned v ∧ Q_rm_mk_1_1 Z G1 qr nr kq qa qb h0 n0 v U'.heap L ∧ FrameEnd U o U' L ({ frames := 3, cells := 2, slots := 5, locals := 39 } : Room).cells ({ frames := 3, cells := 2, slots := 5, locals := 39 } : Room).slots) := by
 refine MetFree.of_bodySF (plainFor_of_name pn_com_example_alcance_alcance_IdentifiersQuotedPinLaw) hisR ?_
 intro p e s m args below meth c s₁ Bd hml0 hP hK
 obtain ⟨rfl, hZ, hh⟩ := hP
 have hx := Bd.exec
 have hby := Bd.bytes
 have hml : c.maxLocals = 6 := hml0
 have hown : s.vm.findClass "com/example/alcance/alcance/IdentifiersQuotedPinLaw" = some m.cls := findClass_of_methodNamed Bd.named
 have hnm := (name_of_methodNamed Bd.named Bd.method).1
 have X0 : Stand p l e ({ frames := 3, cells := 2, slots := 5, locals := 39 } : Room) s m #[(.int (1 : Int32)), (.ref qr), (.ref nr), (.int (1 : Int32))] below meth c s₁ [] 0 0 := Stand.of_body Bd
 have e0 : s₁.heap = h0 := by rw [← hh, Bd.state]; rfl
 have N0 := Fr.nil n0
 have K00 : Keep h0 h0 [] := Keep.refl _ _
 show Rch p e below s₁ (entryFrame m #[(.int (1 : Int32)), (.ref qr), (.ref nr), (.int (1 : Int32))] 6) (FinP s (Q_rm_mk_1_1 Z G1 qr nr kq qa qb h0 n0) 2 5)
 refine Rch.cast (ef_rm_mk_1_1 m G1 qr nr kq qa qb) ?_
 show Rch p e below s₁ (mkF m 0 #[.val (.int 1), .val (.ref qr), .val (.ref nr), .val (.int 1), .unset, .unset] []) _
 refine w_iloadN (pc' := 1) X0 hx hby dm3_0 rfl rfl ?_
 refine w_ifNo (pc' := 4) X0 hx hby dm3_1 (XT.i0_eq_f (by decide)) rfl ?_
 refine w_aloadN (pc' := 5) X0 hx hby dm3_4 rfl rfl rfl ?_
 refine w_goto (pc' := 9) X0 hx hby dm3_5 (by decide) ?_
 refine w_astore (pc' := 11) (l' := #[.val (.int 1), .val (.ref qr), .val (.ref nr), .val (.int 1), .val (.ref qr), .unset]) X0 hx hby dm3_9 rfl rfl rfl ?_
 refine w_iloadN (pc' := 12) X0 hx hby dm3_11 rfl rfl ?_
 refine w_ifYes (pc' := 18) X0 hx hby dm3_12 (XT.i0_ne_t (by decide)) (by decide) ?_
 refine w_iloadN (pc' := 19) X0 hx hby dm3_18 rfl rfl ?_
 refine w_iconst (pc' := 20) (v := 1) X0 hx hby dm3_19 rfl rfl ?_
 refine w_icmpNo (pc' := 23) X0 hx hby dm3_20 (XT.ii_ne_f (by decide)) rfl ?_
 refine w_aload (pc' := 25) X0 hx hby dm3_23 rfl rfl rfl ?_
 refine w_iconst (pc' := 26) (v := 0) X0 hx hby dm3_25 rfl rfl ?_
 refine Rch.st (fun _ k => own_ldC X0 hx hZ e0 f2 (j := (0 : Int32)) ⟨by decide, by decide⟩ (by rfl) rfl rfl (hb hby dm3_26) k) ?_
 show Rch p e below s₁ (mkF m 27 #[.val (.int 1), .val (.ref qr), .val (.ref nr), .val (.int 1), .val (.ref qr), .unset] [(.int qa)]) _
 obtain ⟨_, _, ⟨T479, L479, k479, n479⟩, -, X479, ⟨Lc479, hQ479, l479, y479, z479⟩, st479⟩ := Jvm.LawKit.callS X0 hx (y := (⟨"java/lang/String", "valueOf", "(C)Ljava/lang/String;"⟩ : MethodName)) hown (mvT hZ (wi hw 157 rfl)) (mvT hZ (wi hw 158 rfl)) (mvT hZ (wi hw 6 rfl)) (mvT hZ (wi hw 159 rfl)) (by decide) (backOf (W := 0) (rm_vo l Z a0 hw [] G1 qa h0 n0 Z0 (O2) (P5) (ch_qa.le) Old0) hZ (wi hw 159 rfl) (wi hw 6 rfl) (by decide) (by decide)) (g := (mkF m 27 #[.val (.int 1), .val (.ref qr), .val (.ref nr), .val (.int 1), .val (.ref qr), .unset] [(.int qa)])) rfl (by rw [hml]; rfl) (argsL := [(.int qa)]) (rest := []) (lenOf pd__C_Ljava_lang_String_ rfl) rfl (by show 2 * 0 + _ ≤ _; exact Nat.le_of_eq rfl) (hb hby dm3_27) (fun _ _ => ⟨rfl, e0, (by decide : 0 + 2 ≤ _), (by decide : 0 + 5 ≤ _)⟩)
 dsimp only [Pt.U, Pt.locs, Pt.cells, Pt.slots] at X479 l479 y479 z479 st479 hQ479
 subst l479 y479 z479
 obtain ⟨ra_479, t_479, kt_479, rfl, NQ479, K479, pq479_0, pq479_1, fq479_0, fq479_1, fq479_2, fq479_3⟩ := hQ479
 have N480 := Fr.app N0 NQ479
 have Kp487 : Keep h0 T479.heap [] := K00.trans K479 all0
 refine Rch.st (fun _ k => st479 _ k) ?_
 show Rch p e below T479 (mkF m 30 #[.val (.int 1), .val (.ref qr), .val (.ref nr), .val (.int 1), .val (.ref qr), .unset] [(.ref ra_479)]) _
 exact Rch.retV X479 hx Bd.returns rfl (Or.inr (Or.inr (Or.inr (Or.inr ⟨rfl, rfl, rfl⟩)))) (hb hby dm3_30) (by rw [(rfl : T479.heap = T479.heap)]; exact ⟨ra_479, t_479, kt_479, rfl, N480, Kp487, (Nat.le_trans K00.1 pq479_0), (Nat.le_trans K00.1 pq479_1), fq479_0, fq479_1, fq479_2, fq479_3⟩) (by decide) (by decide)

theorem ef_rm_mk_1_2 (m : MethodId) (G1 : Int32) (qr : Addr) (nr : Addr) (kq : ClassId) (qa : Int32) (qb : Int32)  : entryFrame m #[(.int (2 : Int32)), (.ref qr), (.ref nr), (.int (1 : Int32))] 6 = mkF m 0 #[.val (.int (2 : Int32)), .val (.ref qr), .val (.ref nr), .val (.int (1 : Int32)), .unset, .unset] [] := by  first | (simp [entryFrame, mkF, argsToLocals, Value.category, maxLocals]; done) | rfl
def Q_rm_mk_1_2 (Z : State) (G1 : Int32) (qr : Addr) (nr : Addr) (kq : ClassId) (qa : Int32) (qb : Int32) (h0 : Heap) (n0 : Nat) (v : Option Value) (h : Heap) (L : List Loc) : Prop := ∃ (ra : Addr) (t : Addr) (kt : ClassId), (v = some (.ref ra)) ∧ (Fr n0 L) ∧ (Keep h0 h []) ∧ (h0.size ≤ ra) ∧ (h0.size ≤ t) ∧ (Exa Z h ra "java/lang/String") ∧ (Fld Z h ra "java/lang/String" "coder" "B" (.int (0 : Int32))) ∧ (Fld Z h ra "java/lang/String" "value" "[B" (.ref t)) ∧ (Arv Z h t kt .byte (2 : Int32) [(.int (own_by qa)), (.int (own_by qb))] (.int (0 : Int32)))
theorem pd___C_V : parseMethodDescriptor "([C)V" = some ⟨[(.array .char)], none⟩ := by decide +kernel
set_option maxRecDepth 65536 in
set_option maxHeartbeats 40000000 in
theorem rm_mk_1_2 (l : Launch) (Z : State) (a0 : Array Value) (hw : ∀ d ∈ tables_1, d.before a0 Z = true) (ws : List Jvm.Cond) (G1 : Int32) (qr : Addr) (nr : Addr) (kq : ClassId) (qa : Int32) (qb : Int32) (h0 : Heap) (n0 : Nat) (Z0 : n0 ≤ h0.size) (O2 : Sta Z Z.heap "java/lang/String" "COMPACT_STRINGS" "Z" (.int G1)) (P5 : ¬ G1 = 0) (f2 : Arv Z h0 qr kq .char (2 : Int32) [(.int qa), (.int qb)] (.int (0 : Int32))) (ch_qa : Ch8 qa) (ch_qb : Ch8 qb) (Old0 : OldL Z n0 h0) :
    MetFree l (⟨"com/example/alcance/alcance/IdentifiersQuotedPinLaw", "make", "(I[C[CZ)Ljava/lang/String;"⟩ : MethodName) (head1 (Jvm.Cond.code (⟨"com/example/alcance/alcance/IdentifiersQuotedPinLaw", "make", "(I[C[CZ)Ljava/lang/String;"⟩ : MethodName) method_3_code 6 (some (.object "java/lang/String")) :: ws) ({ frames := 4, cells := 3, slots := 8, locals := 66 } : Room)) (fun a U => a = #[(.int (2 : Int32)), (.ref qr), (.ref nr), (.int (1 : Int32))] ∧ Z.Warmed39 U.vm ∧ U.heap = h0) (fun _ _ _ _ _ => True) (fun _ U o U' => ∃ v L, o = .returned v ∧ Q_rm_mk_1_2 Z G1 qr nr kq qa qb h0 n0 v U'.heap L ∧ FrameEnd U o U' L ({ frames := 4, cells := 3, slots := 8, locals := 66 } : Room).cells ({ frames := 4, cells := 3, slots := 8, locals := 66 } : Room).slots) := by
 refine MetFree.of_bodySF (plainFor_of_name pn_com_example_alcance_alcance_IdentifiersQuotedPinLaw) hisR ?_
 intro p e s m args below meth c s₁ Bd hml0 hP hK
 obtain ⟨rfl, hZ, hh⟩ := hP
 have hx := Bd.exec
 have hby := Bd.bytes
 have hml : c.maxLocals = 6 := hml0
 have hown : s.vm.findClass "com/example/alcance/alcance/IdentifiersQuotedPinLaw" = some m.cls := findClass_of_methodNamed Bd.named
 have hnm := (name_of_methodNamed Bd.named Bd.method).1
 have X0 : Stand p l e ({ frames := 4, cells := 3, slots := 8, locals := 66 } : Room) s m #[(.int (2 : Int32)), (.ref qr), (.ref nr), (.int (1 : Int32))] below meth c s₁ [] 0 0 := Stand.of_body Bd
 have e0 : s₁.heap = h0 := by rw [← hh, Bd.state]; rfl
 have N0 := Fr.nil n0
 have K00 : Keep h0 h0 [] := Keep.refl _ _
 show Rch p e below s₁ (entryFrame m #[(.int (2 : Int32)), (.ref qr), (.ref nr), (.int (1 : Int32))] 6) (FinP s (Q_rm_mk_1_2 Z G1 qr nr kq qa qb h0 n0) 3 8)
 refine Rch.cast (ef_rm_mk_1_2 m G1 qr nr kq qa qb) ?_
 show Rch p e below s₁ (mkF m 0 #[.val (.int 2), .val (.ref qr), .val (.ref nr), .val (.int 1), .unset, .unset] []) _
 refine w_iloadN (pc' := 1) X0 hx hby dm3_0 rfl rfl ?_
 refine w_ifNo (pc' := 4) X0 hx hby dm3_1 (XT.i0_eq_f (by decide)) rfl ?_
 refine w_aloadN (pc' := 5) X0 hx hby dm3_4 rfl rfl rfl ?_
 refine w_goto (pc' := 9) X0 hx hby dm3_5 (by decide) ?_
 refine w_astore (pc' := 11) (l' := #[.val (.int 2), .val (.ref qr), .val (.ref nr), .val (.int 1), .val (.ref qr), .unset]) X0 hx hby dm3_9 rfl rfl rfl ?_
 refine w_iloadN (pc' := 12) X0 hx hby dm3_11 rfl rfl ?_
 refine w_ifYes (pc' := 18) X0 hx hby dm3_12 (XT.i0_ne_t (by decide)) (by decide) ?_
 refine w_iloadN (pc' := 19) X0 hx hby dm3_18 rfl rfl ?_
 refine w_iconst (pc' := 20) (v := 1) X0 hx hby dm3_19 rfl rfl ?_
 refine w_icmpYes (pc' := 31) X0 hx hby dm3_20 (XT.ii_ne_t (by decide)) (by decide) ?_
 refine w_iloadN (pc' := 32) X0 hx hby dm3_31 rfl rfl ?_
 refine w_iconst (pc' := 33) (v := 2) X0 hx hby dm3_32 rfl rfl ?_
 refine w_icmpNo (pc' := 36) X0 hx hby dm3_33 (XT.ii_ne_f (by decide)) rfl ?_
 refine w_iconst (pc' := 37) (v := 2) X0 hx hby dm3_36 rfl rfl ?_
 obtain ⟨T489, h489, kc489, X489, e489, E489, A489, st489⟩ := newP X0 hx hZ (wi hw 0 rfl) e0 (g := (mkF m 37 #[.val (.int 2), .val (.ref qr), .val (.ref nr), .val (.int 1), .val (.ref qr), .unset] [(.int 2)])) rfl (hb hby dm3_37) rfl (by decide : ¬ ((2 : Int32) < (0 : Int32))) (cap := 2) (by decide : (2 : Int32).toNatClampNeg ≤ 2) (by decide) (by decide) (by decide)
 obtain ⟨a489, g489⟩ : ∃ z, z = h0.size := ⟨_, rfl⟩
 rw [← g489] at A489 st489
 have ne490 : qr ≠ a489 := by rw [g489]; exact Nat.ne_of_lt f2.lt
 have ge491 : n0 ≤ a489 := Nat.le_trans Z0 (Nat.le_of_eq g489.symm)
 have f493 := f2.ext E489
 have Old494 := Old0.ext E489
 have Z495 := Nat.le_trans Z0 E489.1
 have Kp496 : Keep h0 h489 [] := K00.ext E489
 have f497 : Arv Z h489 a489 kc489 .char (2 : Int32) [(.int (0 : Int32)), (.int (0 : Int32))] (.int (0 : Int32)) := (Arv.new A489 (by decide : ¬ ((2 : Int32) < (0 : Int32)))).pad (pad_rep [] (.int (0 : Int32)) 2)
 refine Rch.st (fun _ k => st489 _ k) ?_
 show Rch p e below T489 (mkF m 39 #[.val (.int 2), .val (.ref qr), .val (.ref nr), .val (.int 1), .val (.ref qr), .unset] [(.ref a489)]) _
 refine w_astore (pc' := 41) (l' := #[.val (.int 2), .val (.ref qr), .val (.ref nr), .val (.int 1), .val (.ref qr), .val (.ref a489)]) X489 hx hby dm3_39 rfl rfl rfl ?_
 refine w_aload (pc' := 43) X489 hx hby dm3_41 rfl rfl rfl ?_
 refine w_iconst (pc' := 44) (v := 0) X489 hx hby dm3_43 rfl rfl ?_
 refine w_aload (pc' := 46) X489 hx hby dm3_44 rfl rfl rfl ?_
 refine w_iconst (pc' := 47) (v := 0) X489 hx hby dm3_46 rfl rfl ?_
 refine Rch.st (fun _ k => own_ldC X489 hx hZ e489 f493 (j := (0 : Int32)) ⟨by decide, by decide⟩ (by rfl) rfl rfl (hb hby dm3_47) k) ?_
 show Rch p e below T489 (mkF m 48 #[.val (.int 2), .val (.ref qr), .val (.ref nr), .val (.int 1), .val (.ref qr), .val (.ref a489)] [(.int qa), (.int 0), (.ref a489)]) _
 obtain ⟨T498, h498, X498, e498, W498, V498, st498⟩ := own_stC X489 hx hZ e489 f497 (j := (0 : Int32)) ⟨by decide, by decide⟩ 0 (by decide) (by decide : 0 < 2) (g := (mkF m 48 #[.val (.int 2), .val (.ref qr), .val (.ref nr), .val (.int 1), .val (.ref qr), .val (.ref a489)] [(.int qa), (.int 0), (.ref a489)])) rfl rfl (hb hby dm3_48)
 have N499 := Fr.snoc X498 N0 ge491
 have f500 := f493.other W498 ne490
 have Old501 := Old494.wr W498 ge491
 have Z502 := Nat.le_trans Z495 (Keep.of_wr W498).1
 have Kp503 : Keep h0 h498 [] := Kp496.wr W498 (Or.inr (Nat.le_trans K00.1 (Nat.le_of_eq g489.symm)))
 have f504 : Arv Z h498 a489 kc489 .char (2 : Int32) [(.int (nar .char qa)), (.int (0 : Int32))] (.int (0 : Int32)) := V498
 refine Rch.st (fun _ k => st498 _ k) ?_
 show Rch p e below T498 (mkF m 49 #[.val (.int 2), .val (.ref qr), .val (.ref nr), .val (.int 1), .val (.ref qr), .val (.ref a489)] []) _
 refine w_aload (pc' := 51) X498 hx hby dm3_49 rfl rfl rfl ?_
 refine w_iconst (pc' := 52) (v := 1) X498 hx hby dm3_51 rfl rfl ?_
 refine w_aload (pc' := 54) X498 hx hby dm3_52 rfl rfl rfl ?_
 refine w_iconst (pc' := 55) (v := 1) X498 hx hby dm3_54 rfl rfl ?_
 refine Rch.st (fun _ k => own_ldC X498 hx hZ e498 f500 (j := (1 : Int32)) ⟨by decide, by decide⟩ (by rfl) rfl rfl (hb hby dm3_55) k) ?_
 show Rch p e below T498 (mkF m 56 #[.val (.int 2), .val (.ref qr), .val (.ref nr), .val (.int 1), .val (.ref qr), .val (.ref a489)] [(.int qb), (.int 1), (.ref a489)]) _
 obtain ⟨T505, h505, X505, e505, W505, V505, st505⟩ := own_stC X498 hx hZ e498 f504 (j := (1 : Int32)) ⟨by decide, by decide⟩ 1 (by decide) (by decide : 1 < 2) (g := (mkF m 56 #[.val (.int 2), .val (.ref qr), .val (.ref nr), .val (.int 1), .val (.ref qr), .val (.ref a489)] [(.int qb), (.int 1), (.ref a489)])) rfl rfl (hb hby dm3_56)
 have N506 := Fr.snoc X505 N499 ge491
 have Old508 := Old501.wr W505 ge491
 have Z509 := Nat.le_trans Z502 (Keep.of_wr W505).1
 have Kp510 : Keep h0 h505 [] := Kp503.wr W505 (Or.inr (Nat.le_trans K00.1 (Nat.le_of_eq g489.symm)))
 have f511 : Arv Z h505 a489 kc489 .char (2 : Int32) [(.int (nar .char qa)), (.int (nar .char qb))] (.int (0 : Int32)) := V505
 refine Rch.st (fun _ k => st505 _ k) ?_
 show Rch p e below T505 (mkF m 57 #[.val (.int 2), .val (.ref qr), .val (.ref nr), .val (.int 1), .val (.ref qr), .val (.ref a489)] []) _
 have f512 : Arv Z h505 a489 kc489 .char (2 : Int32) [(.int qa), (.int qb)] (.int (0 : Int32)) := by have z := f511; rw [ch_qa.nr, ch_qb.nr] at z; exact z
 obtain ⟨T513, h513, X513, e513, E513, A513, D513, -, st513⟩ := newO X505 hx hZ hown (wi hw 171 rfl) (wi hw 7 rfl) (wi hw 6 rfl) e505 (g := (mkF m 57 #[.val (.int 2), .val (.ref qr), .val (.ref nr), .val (.int 1), .val (.ref qr), .val (.ref a489)] [])) rfl (hb hby dm3_57) (by decide) (by decide)
 obtain ⟨a513, g513⟩ : ∃ z, z = h505.size := ⟨_, rfl⟩
 rw [← g513] at A513 D513 st513
 have ne514 : a489 ≠ a513 := by rw [g513]; exact Nat.ne_of_lt f512.lt
 have ge516 : n0 ≤ a513 := Nat.le_trans Z509 (Nat.le_of_eq g513.symm)
 have f519 := f512.ext E513
 have Old520 := Old508.ext E513
 have Z521 := Nat.le_trans Z509 E513.1
 have Kp522 : Keep h0 h513 [] := Kp510.ext E513
 have f523 : Fld Z h513 a513 "java/lang/String" "coder" "B" (.int (0 : Int32)) := D513 (Or.inr (wi hw 10 rfl)) (ty := .byte) (by decide)
 have f524 : Fld Z h513 a513 "java/lang/String" "value" "[B" .null := D513 (Or.inr (wi hw 9 rfl)) (ty := (.array .byte)) (by decide)
 refine Rch.st (fun _ k => st513 _ k) ?_
 show Rch p e below T513 (mkF m 60 #[.val (.int 2), .val (.ref qr), .val (.ref nr), .val (.int 1), .val (.ref qr), .val (.ref a489)] [(.ref a513)]) _
 refine w_dup (pc' := 61) X513 hx hby dm3_60 rfl rfl ?_
 refine w_aload (pc' := 63) X513 hx hby dm3_61 rfl rfl rfl ?_
 obtain ⟨_, _, ⟨T525, L525, k525, n525⟩, -, X525, ⟨Lc525, hQ525, l525, y525, z525⟩, st525⟩ := X513.specialBack hx (y := (⟨"java/lang/String", "<init>", "([C)V"⟩ : MethodName)) rfl hown (mvT hZ (wi hw 172 rfl)) (mvT hZ (wi hw 173 rfl)) (mvT hZ (wi hw 174 rfl)) (by decide) (backOf (W := 1) (rm_init1_2 l Z a0 hw [] G1 a513 a489 kc489 qa qb h513 n0 Z521 (O2) (P5) A513 f523 f524 f519 (ge516) ((Ne.symm ne514)) (ch_qa.le) (ch_qb.le) Old520) hZ (wi hw 174 rfl) (wi hw 6 rfl) (by decide) (by decide)) (g := (mkF m 63 #[.val (.int 2), .val (.ref qr), .val (.ref nr), .val (.int 1), .val (.ref qr), .val (.ref a489)] [(.ref a489), (.ref a513), (.ref a513)])) rfl (by rw [hml]; rfl) (Steps.refl _) (a := a513) (argsL := [(.ref a489)]) (rest := [(.ref a513)]) (lenOf pd___C_V rfl) rfl (by show 2 * 0 + _ ≤ _; exact Nat.le_of_eq rfl) (hb hby dm3_63) (fun _ _ => ⟨rfl, e513, (by decide : 2 + 1 ≤ _), (by decide : 6 + 2 ≤ _)⟩)
 dsimp only [Pt.U, Pt.locs, Pt.cells, Pt.slots] at X525 l525 y525 z525 st525 hQ525
 subst l525 y525 z525
 obtain ⟨t_525, kt_525, rfl, NQ525, K525, pq525_0, fq525_0, fq525_1, fq525_2⟩ := hQ525
 have N526 := Fr.app N506 NQ525
 have f533 := A513.keep K525
 have Kp535 : Keep h0 T525.heap [] := Kp522.trans K525 (allS (Or.inr (Nat.le_trans Kp510.1 (Nat.le_of_eq g513.symm))) all0)
 refine Rch.st (fun _ k => st525.trans k) ?_
 show Rch p e below T525 (mkF m 66 #[.val (.int 2), .val (.ref qr), .val (.ref nr), .val (.int 1), .val (.ref qr), .val (.ref a489)] [(.ref a513)]) _
 exact Rch.retV X525 hx Bd.returns rfl (Or.inr (Or.inr (Or.inr (Or.inr ⟨rfl, rfl, rfl⟩)))) (hb hby dm3_66) (by rw [(rfl : T525.heap = T525.heap)]; exact ⟨a513, t_525, kt_525, rfl, N526, Kp535, (Nat.le_trans Kp510.1 (Nat.le_of_eq g513.symm)), (Nat.le_trans Kp522.1 pq525_0), f533, fq525_0, fq525_1, fq525_2⟩) (by decide) (by decide)

theorem ef_rm_mk_0_1 (m : MethodId) (G1 : Int32) (qr : Addr) (nr : Addr) (kn : ClassId) (na : Int32) (nb : Int32) (nc : Int32)  : entryFrame m #[(.int (1 : Int32)), (.ref qr), (.ref nr), (.int (0 : Int32))] 6 = mkF m 0 #[.val (.int (1 : Int32)), .val (.ref qr), .val (.ref nr), .val (.int (0 : Int32)), .unset, .unset] [] := by  first | (simp [entryFrame, mkF, argsToLocals, Value.category, maxLocals]; done) | rfl
def Q_rm_mk_0_1 (Z : State) (G1 : Int32) (qr : Addr) (nr : Addr) (kn : ClassId) (na : Int32) (nb : Int32) (nc : Int32) (h0 : Heap) (n0 : Nat) (v : Option Value) (h : Heap) (L : List Loc) : Prop := ∃ (ra : Addr) (t : Addr) (kt : ClassId), (v = some (.ref ra)) ∧ (Fr n0 L) ∧ (Keep h0 h []) ∧ (h0.size ≤ ra) ∧ (h0.size ≤ t) ∧ (Exa Z h ra "java/lang/String") ∧ (Fld Z h ra "java/lang/String" "coder" "B" (.int (0 : Int32))) ∧ (Fld Z h ra "java/lang/String" "value" "[B" (.ref t)) ∧ (Arv Z h t kt .byte (1 : Int32) [(.int (own_by na))] (.int (0 : Int32)))
set_option maxRecDepth 65536 in
set_option maxHeartbeats 40000000 in
theorem rm_mk_0_1 (l : Launch) (Z : State) (a0 : Array Value) (hw : ∀ d ∈ tables_1, d.before a0 Z = true) (ws : List Jvm.Cond) (G1 : Int32) (qr : Addr) (nr : Addr) (kn : ClassId) (na : Int32) (nb : Int32) (nc : Int32) (h0 : Heap) (n0 : Nat) (Z0 : n0 ≤ h0.size) (O2 : Sta Z Z.heap "java/lang/String" "COMPACT_STRINGS" "Z" (.int G1)) (P5 : ¬ G1 = 0) (f2 : Arv Z h0 nr kn .char (3 : Int32) [(.int na), (.int nb), (.int nc)] (.int (0 : Int32))) (ch_na : Ch8 na) (Old0 : OldL Z n0 h0) :
    MetFree l (⟨"com/example/alcance/alcance/IdentifiersQuotedPinLaw", "make", "(I[C[CZ)Ljava/lang/String;"⟩ : MethodName) (head1 (Jvm.Cond.code (⟨"com/example/alcance/alcance/IdentifiersQuotedPinLaw", "make", "(I[C[CZ)Ljava/lang/String;"⟩ : MethodName) method_3_code 6 (some (.object "java/lang/String")) :: ws) ({ frames := 3, cells := 2, slots := 5, locals := 39 } : Room)) (fun a U => a = #[(.int (1 : Int32)), (.ref qr), (.ref nr), (.int (0 : Int32))] ∧ Z.Warmed39 U.vm ∧ U.heap = h0) (fun _ _ _ _ _ => True) (fun _ U o U' => ∃ v L, o = .returned v ∧ Q_rm_mk_0_1 Z G1 qr nr kn na nb nc h0 n0 v U'.heap L ∧ FrameEnd U o U' L ({ frames := 3, cells := 2, slots := 5, locals := 39 } : Room).cells ({ frames := 3, cells := 2, slots := 5, locals := 39 } : Room).slots) := by
 refine MetFree.of_bodySF (plainFor_of_name pn_com_example_alcance_alcance_IdentifiersQuotedPinLaw) hisR ?_
 intro p e s m args below meth c s₁ Bd hml0 hP hK
 obtain ⟨rfl, hZ, hh⟩ := hP
 have hx := Bd.exec
 have hby := Bd.bytes
 have hml : c.maxLocals = 6 := hml0
 have hown : s.vm.findClass "com/example/alcance/alcance/IdentifiersQuotedPinLaw" = some m.cls := findClass_of_methodNamed Bd.named
 have hnm := (name_of_methodNamed Bd.named Bd.method).1
 have X0 : Stand p l e ({ frames := 3, cells := 2, slots := 5, locals := 39 } : Room) s m #[(.int (1 : Int32)), (.ref qr), (.ref nr), (.int (0 : Int32))] below meth c s₁ [] 0 0 := Stand.of_body Bd
 have e0 : s₁.heap = h0 := by rw [← hh, Bd.state]; rfl
 have N0 := Fr.nil n0
 have K00 : Keep h0 h0 [] := Keep.refl _ _
 show Rch p e below s₁ (entryFrame m #[(.int (1 : Int32)), (.ref qr), (.ref nr), (.int (0 : Int32))] 6) (FinP s (Q_rm_mk_0_1 Z G1 qr nr kn na nb nc h0 n0) 2 5)
 refine Rch.cast (ef_rm_mk_0_1 m G1 qr nr kn na nb nc) ?_
 show Rch p e below s₁ (mkF m 0 #[.val (.int 1), .val (.ref qr), .val (.ref nr), .val (.int 0), .unset, .unset] []) _
 refine w_iloadN (pc' := 1) X0 hx hby dm3_0 rfl rfl ?_
 refine w_ifYes (pc' := 8) X0 hx hby dm3_1 (XT.i0_eq_t (by decide)) (by decide) ?_
 refine w_aloadN (pc' := 9) X0 hx hby dm3_8 rfl rfl rfl ?_
 refine w_astore (pc' := 11) (l' := #[.val (.int 1), .val (.ref qr), .val (.ref nr), .val (.int 0), .val (.ref nr), .unset]) X0 hx hby dm3_9 rfl rfl rfl ?_
 refine w_iloadN (pc' := 12) X0 hx hby dm3_11 rfl rfl ?_
 refine w_ifYes (pc' := 18) X0 hx hby dm3_12 (XT.i0_ne_t (by decide)) (by decide) ?_
 refine w_iloadN (pc' := 19) X0 hx hby dm3_18 rfl rfl ?_
 refine w_iconst (pc' := 20) (v := 1) X0 hx hby dm3_19 rfl rfl ?_
 refine w_icmpNo (pc' := 23) X0 hx hby dm3_20 (XT.ii_ne_f (by decide)) rfl ?_
 refine w_aload (pc' := 25) X0 hx hby dm3_23 rfl rfl rfl ?_
 refine w_iconst (pc' := 26) (v := 0) X0 hx hby dm3_25 rfl rfl ?_
 refine Rch.st (fun _ k => own_ldC X0 hx hZ e0 f2 (j := (0 : Int32)) ⟨by decide, by decide⟩ (by rfl) rfl rfl (hb hby dm3_26) k) ?_
 show Rch p e below s₁ (mkF m 27 #[.val (.int 1), .val (.ref qr), .val (.ref nr), .val (.int 0), .val (.ref nr), .unset] [(.int na)]) _
 obtain ⟨_, _, ⟨T537, L537, k537, n537⟩, -, X537, ⟨Lc537, hQ537, l537, y537, z537⟩, st537⟩ := Jvm.LawKit.callS X0 hx (y := (⟨"java/lang/String", "valueOf", "(C)Ljava/lang/String;"⟩ : MethodName)) hown (mvT hZ (wi hw 157 rfl)) (mvT hZ (wi hw 158 rfl)) (mvT hZ (wi hw 6 rfl)) (mvT hZ (wi hw 159 rfl)) (by decide) (backOf (W := 0) (rm_vo l Z a0 hw [] G1 na h0 n0 Z0 (O2) (P5) (ch_na.le) Old0) hZ (wi hw 159 rfl) (wi hw 6 rfl) (by decide) (by decide)) (g := (mkF m 27 #[.val (.int 1), .val (.ref qr), .val (.ref nr), .val (.int 0), .val (.ref nr), .unset] [(.int na)])) rfl (by rw [hml]; rfl) (argsL := [(.int na)]) (rest := []) (lenOf pd__C_Ljava_lang_String_ rfl) rfl (by show 2 * 0 + _ ≤ _; exact Nat.le_of_eq rfl) (hb hby dm3_27) (fun _ _ => ⟨rfl, e0, (by decide : 0 + 2 ≤ _), (by decide : 0 + 5 ≤ _)⟩)
 dsimp only [Pt.U, Pt.locs, Pt.cells, Pt.slots] at X537 l537 y537 z537 st537 hQ537
 subst l537 y537 z537
 obtain ⟨ra_537, t_537, kt_537, rfl, NQ537, K537, pq537_0, pq537_1, fq537_0, fq537_1, fq537_2, fq537_3⟩ := hQ537
 have N538 := Fr.app N0 NQ537
 have Kp545 : Keep h0 T537.heap [] := K00.trans K537 all0
 refine Rch.st (fun _ k => st537 _ k) ?_
 show Rch p e below T537 (mkF m 30 #[.val (.int 1), .val (.ref qr), .val (.ref nr), .val (.int 0), .val (.ref nr), .unset] [(.ref ra_537)]) _
 exact Rch.retV X537 hx Bd.returns rfl (Or.inr (Or.inr (Or.inr (Or.inr ⟨rfl, rfl, rfl⟩)))) (hb hby dm3_30) (by rw [(rfl : T537.heap = T537.heap)]; exact ⟨ra_537, t_537, kt_537, rfl, N538, Kp545, (Nat.le_trans K00.1 pq537_0), (Nat.le_trans K00.1 pq537_1), fq537_0, fq537_1, fq537_2, fq537_3⟩) (by decide) (by decide)

theorem ef_rm_mk_0_2 (m : MethodId) (G1 : Int32) (qr : Addr) (nr : Addr) (kn : ClassId) (na : Int32) (nb : Int32) (nc : Int32)  : entryFrame m #[(.int (2 : Int32)), (.ref qr), (.ref nr), (.int (0 : Int32))] 6 = mkF m 0 #[.val (.int (2 : Int32)), .val (.ref qr), .val (.ref nr), .val (.int (0 : Int32)), .unset, .unset] [] := by  first | (simp [entryFrame, mkF, argsToLocals, Value.category, maxLocals]; done) | rfl
def Q_rm_mk_0_2 (Z : State) (G1 : Int32) (qr : Addr) (nr : Addr) (kn : ClassId) (na : Int32) (nb : Int32) (nc : Int32) (h0 : Heap) (n0 : Nat) (v : Option Value) (h : Heap) (L : List Loc) : Prop := ∃ (ra : Addr) (t : Addr) (kt : ClassId), (v = some (.ref ra)) ∧ (Fr n0 L) ∧ (Keep h0 h []) ∧ (h0.size ≤ ra) ∧ (h0.size ≤ t) ∧ (Exa Z h ra "java/lang/String") ∧ (Fld Z h ra "java/lang/String" "coder" "B" (.int (0 : Int32))) ∧ (Fld Z h ra "java/lang/String" "value" "[B" (.ref t)) ∧ (Arv Z h t kt .byte (2 : Int32) [(.int (own_by na)), (.int (own_by nb))] (.int (0 : Int32)))
set_option maxRecDepth 65536 in
set_option maxHeartbeats 40000000 in
theorem rm_mk_0_2 (l : Launch) (Z : State) (a0 : Array Value) (hw : ∀ d ∈ tables_1, d.before a0 Z = true) (ws : List Jvm.Cond) (G1 : Int32) (qr : Addr) (nr : Addr) (kn : ClassId) (na : Int32) (nb : Int32) (nc : Int32) (h0 : Heap) (n0 : Nat) (Z0 : n0 ≤ h0.size) (O2 : Sta Z Z.heap "java/lang/String" "COMPACT_STRINGS" "Z" (.int G1)) (P5 : ¬ G1 = 0) (f2 : Arv Z h0 nr kn .char (3 : Int32) [(.int na), (.int nb), (.int nc)] (.int (0 : Int32))) (ch_na : Ch8 na) (ch_nb : Ch8 nb) (Old0 : OldL Z n0 h0) :
    MetFree l (⟨"com/example/alcance/alcance/IdentifiersQuotedPinLaw", "make", "(I[C[CZ)Ljava/lang/String;"⟩ : MethodName) (head1 (Jvm.Cond.code (⟨"com/example/alcance/alcance/IdentifiersQuotedPinLaw", "make", "(I[C[CZ)Ljava/lang/String;"⟩ : MethodName) method_3_code 6 (some (.object "java/lang/String")) :: ws) ({ frames := 4, cells := 3, slots := 8, locals := 66 } : Room)) (fun a U => a = #[(.int (2 : Int32)), (.ref qr), (.ref nr), (.int (0 : Int32))] ∧ Z.Warmed39 U.vm ∧ U.heap = h0) (fun _ _ _ _ _ => True) (fun _ U o U' => ∃ v L, o = .returned v ∧ Q_rm_mk_0_2 Z G1 qr nr kn na nb nc h0 n0 v U'.heap L ∧ FrameEnd U o U' L ({ frames := 4, cells := 3, slots := 8, locals := 66 } : Room).cells ({ frames := 4, cells := 3, slots := 8, locals := 66 } : Room).slots) := by
 refine MetFree.of_bodySF (plainFor_of_name pn_com_example_alcance_alcance_IdentifiersQuotedPinLaw) hisR ?_
 intro p e s m args below meth c s₁ Bd hml0 hP hK
 obtain ⟨rfl, hZ, hh⟩ := hP
 have hx := Bd.exec
 have hby := Bd.bytes
 have hml : c.maxLocals = 6 := hml0
 have hown : s.vm.findClass "com/example/alcance/alcance/IdentifiersQuotedPinLaw" = some m.cls := findClass_of_methodNamed Bd.named
 have hnm := (name_of_methodNamed Bd.named Bd.method).1
 have X0 : Stand p l e ({ frames := 4, cells := 3, slots := 8, locals := 66 } : Room) s m #[(.int (2 : Int32)), (.ref qr), (.ref nr), (.int (0 : Int32))] below meth c s₁ [] 0 0 := Stand.of_body Bd
 have e0 : s₁.heap = h0 := by rw [← hh, Bd.state]; rfl
 have N0 := Fr.nil n0
 have K00 : Keep h0 h0 [] := Keep.refl _ _
 show Rch p e below s₁ (entryFrame m #[(.int (2 : Int32)), (.ref qr), (.ref nr), (.int (0 : Int32))] 6) (FinP s (Q_rm_mk_0_2 Z G1 qr nr kn na nb nc h0 n0) 3 8)
 refine Rch.cast (ef_rm_mk_0_2 m G1 qr nr kn na nb nc) ?_
 show Rch p e below s₁ (mkF m 0 #[.val (.int 2), .val (.ref qr), .val (.ref nr), .val (.int 0), .unset, .unset] []) _
 refine w_iloadN (pc' := 1) X0 hx hby dm3_0 rfl rfl ?_
 refine w_ifYes (pc' := 8) X0 hx hby dm3_1 (XT.i0_eq_t (by decide)) (by decide) ?_
 refine w_aloadN (pc' := 9) X0 hx hby dm3_8 rfl rfl rfl ?_
 refine w_astore (pc' := 11) (l' := #[.val (.int 2), .val (.ref qr), .val (.ref nr), .val (.int 0), .val (.ref nr), .unset]) X0 hx hby dm3_9 rfl rfl rfl ?_
 refine w_iloadN (pc' := 12) X0 hx hby dm3_11 rfl rfl ?_
 refine w_ifYes (pc' := 18) X0 hx hby dm3_12 (XT.i0_ne_t (by decide)) (by decide) ?_
 refine w_iloadN (pc' := 19) X0 hx hby dm3_18 rfl rfl ?_
 refine w_iconst (pc' := 20) (v := 1) X0 hx hby dm3_19 rfl rfl ?_
 refine w_icmpYes (pc' := 31) X0 hx hby dm3_20 (XT.ii_ne_t (by decide)) (by decide) ?_
 refine w_iloadN (pc' := 32) X0 hx hby dm3_31 rfl rfl ?_
 refine w_iconst (pc' := 33) (v := 2) X0 hx hby dm3_32 rfl rfl ?_
 refine w_icmpNo (pc' := 36) X0 hx hby dm3_33 (XT.ii_ne_f (by decide)) rfl ?_
 refine w_iconst (pc' := 37) (v := 2) X0 hx hby dm3_36 rfl rfl ?_
 obtain ⟨T547, h547, kc547, X547, e547, E547, A547, st547⟩ := newP X0 hx hZ (wi hw 0 rfl) e0 (g := (mkF m 37 #[.val (.int 2), .val (.ref qr), .val (.ref nr), .val (.int 0), .val (.ref nr), .unset] [(.int 2)])) rfl (hb hby dm3_37) rfl (by decide : ¬ ((2 : Int32) < (0 : Int32))) (cap := 2) (by decide : (2 : Int32).toNatClampNeg ≤ 2) (by decide) (by decide) (by decide)
 obtain ⟨a547, g547⟩ : ∃ z, z = h0.size := ⟨_, rfl⟩
 rw [← g547] at A547 st547
 have ne548 : nr ≠ a547 := by rw [g547]; exact Nat.ne_of_lt f2.lt
 have ge549 : n0 ≤ a547 := Nat.le_trans Z0 (Nat.le_of_eq g547.symm)
 have f551 := f2.ext E547
 have Old552 := Old0.ext E547
 have Z553 := Nat.le_trans Z0 E547.1
 have Kp554 : Keep h0 h547 [] := K00.ext E547
 have f555 : Arv Z h547 a547 kc547 .char (2 : Int32) [(.int (0 : Int32)), (.int (0 : Int32))] (.int (0 : Int32)) := (Arv.new A547 (by decide : ¬ ((2 : Int32) < (0 : Int32)))).pad (pad_rep [] (.int (0 : Int32)) 2)
 refine Rch.st (fun _ k => st547 _ k) ?_
 show Rch p e below T547 (mkF m 39 #[.val (.int 2), .val (.ref qr), .val (.ref nr), .val (.int 0), .val (.ref nr), .unset] [(.ref a547)]) _
 refine w_astore (pc' := 41) (l' := #[.val (.int 2), .val (.ref qr), .val (.ref nr), .val (.int 0), .val (.ref nr), .val (.ref a547)]) X547 hx hby dm3_39 rfl rfl rfl ?_
 refine w_aload (pc' := 43) X547 hx hby dm3_41 rfl rfl rfl ?_
 refine w_iconst (pc' := 44) (v := 0) X547 hx hby dm3_43 rfl rfl ?_
 refine w_aload (pc' := 46) X547 hx hby dm3_44 rfl rfl rfl ?_
 refine w_iconst (pc' := 47) (v := 0) X547 hx hby dm3_46 rfl rfl ?_
 refine Rch.st (fun _ k => own_ldC X547 hx hZ e547 f551 (j := (0 : Int32)) ⟨by decide, by decide⟩ (by rfl) rfl rfl (hb hby dm3_47) k) ?_
 show Rch p e below T547 (mkF m 48 #[.val (.int 2), .val (.ref qr), .val (.ref nr), .val (.int 0), .val (.ref nr), .val (.ref a547)] [(.int na), (.int 0), (.ref a547)]) _
 obtain ⟨T556, h556, X556, e556, W556, V556, st556⟩ := own_stC X547 hx hZ e547 f555 (j := (0 : Int32)) ⟨by decide, by decide⟩ 0 (by decide) (by decide : 0 < 2) (g := (mkF m 48 #[.val (.int 2), .val (.ref qr), .val (.ref nr), .val (.int 0), .val (.ref nr), .val (.ref a547)] [(.int na), (.int 0), (.ref a547)])) rfl rfl (hb hby dm3_48)
 have N557 := Fr.snoc X556 N0 ge549
 have f558 := f551.other W556 ne548
 have Old559 := Old552.wr W556 ge549
 have Z560 := Nat.le_trans Z553 (Keep.of_wr W556).1
 have Kp561 : Keep h0 h556 [] := Kp554.wr W556 (Or.inr (Nat.le_trans K00.1 (Nat.le_of_eq g547.symm)))
 have f562 : Arv Z h556 a547 kc547 .char (2 : Int32) [(.int (nar .char na)), (.int (0 : Int32))] (.int (0 : Int32)) := V556
 refine Rch.st (fun _ k => st556 _ k) ?_
 show Rch p e below T556 (mkF m 49 #[.val (.int 2), .val (.ref qr), .val (.ref nr), .val (.int 0), .val (.ref nr), .val (.ref a547)] []) _
 refine w_aload (pc' := 51) X556 hx hby dm3_49 rfl rfl rfl ?_
 refine w_iconst (pc' := 52) (v := 1) X556 hx hby dm3_51 rfl rfl ?_
 refine w_aload (pc' := 54) X556 hx hby dm3_52 rfl rfl rfl ?_
 refine w_iconst (pc' := 55) (v := 1) X556 hx hby dm3_54 rfl rfl ?_
 refine Rch.st (fun _ k => own_ldC X556 hx hZ e556 f558 (j := (1 : Int32)) ⟨by decide, by decide⟩ (by rfl) rfl rfl (hb hby dm3_55) k) ?_
 show Rch p e below T556 (mkF m 56 #[.val (.int 2), .val (.ref qr), .val (.ref nr), .val (.int 0), .val (.ref nr), .val (.ref a547)] [(.int nb), (.int 1), (.ref a547)]) _
 obtain ⟨T563, h563, X563, e563, W563, V563, st563⟩ := own_stC X556 hx hZ e556 f562 (j := (1 : Int32)) ⟨by decide, by decide⟩ 1 (by decide) (by decide : 1 < 2) (g := (mkF m 56 #[.val (.int 2), .val (.ref qr), .val (.ref nr), .val (.int 0), .val (.ref nr), .val (.ref a547)] [(.int nb), (.int 1), (.ref a547)])) rfl rfl (hb hby dm3_56)
 have N564 := Fr.snoc X563 N557 ge549
 have Old566 := Old559.wr W563 ge549
 have Z567 := Nat.le_trans Z560 (Keep.of_wr W563).1
 have Kp568 : Keep h0 h563 [] := Kp561.wr W563 (Or.inr (Nat.le_trans K00.1 (Nat.le_of_eq g547.symm)))
 have f569 : Arv Z h563 a547 kc547 .char (2 : Int32) [(.int (nar .char na)), (.int (nar .char nb))] (.int (0 : Int32)) := V563
 refine Rch.st (fun _ k => st563 _ k) ?_
 show Rch p e below T563 (mkF m 57 #[.val (.int 2), .val (.ref qr), .val (.ref nr), .val (.int 0), .val (.ref nr), .val (.ref a547)] []) _
 have f570 : Arv Z h563 a547 kc547 .char (2 : Int32) [(.int na), (.int nb)] (.int (0 : Int32)) := by have z := f569; rw [ch_na.nr, ch_nb.nr] at z; exact z
 obtain ⟨T571, h571, X571, e571, E571, A571, D571, -, st571⟩ := newO X563 hx hZ hown (wi hw 171 rfl) (wi hw 7 rfl) (wi hw 6 rfl) e563 (g := (mkF m 57 #[.val (.int 2), .val (.ref qr), .val (.ref nr), .val (.int 0), .val (.ref nr), .val (.ref a547)] [])) rfl (hb hby dm3_57) (by decide) (by decide)
 obtain ⟨a571, g571⟩ : ∃ z, z = h563.size := ⟨_, rfl⟩
 rw [← g571] at A571 D571 st571
 have ne572 : a547 ≠ a571 := by rw [g571]; exact Nat.ne_of_lt f570.lt
 have ge574 : n0 ≤ a571 := Nat.le_trans Z567 (Nat.le_of_eq g571.symm)
 have f577 := f570.ext E571
 have Old578 := Old566.ext E571
 have Z579 := Nat.le_trans Z567 E571.1
 have Kp580 : Keep h0 h571 [] := Kp568.ext E571
 have f581 : Fld Z h571 a571 "java/lang/String" "coder" "B" (.int (0 : Int32)) := D571 (Or.inr (wi hw 10 rfl)) (ty := .byte) (by decide)
 have f582 : Fld Z h571 a571 "java/lang/String" "value" "[B" .null := D571 (Or.inr (wi hw 9 rfl)) (ty := (.array .byte)) (by decide)
 refine Rch.st (fun _ k => st571 _ k) ?_
 show Rch p e below T571 (mkF m 60 #[.val (.int 2), .val (.ref qr), .val (.ref nr), .val (.int 0), .val (.ref nr), .val (.ref a547)] [(.ref a571)]) _
 refine w_dup (pc' := 61) X571 hx hby dm3_60 rfl rfl ?_
 refine w_aload (pc' := 63) X571 hx hby dm3_61 rfl rfl rfl ?_
 obtain ⟨_, _, ⟨T583, L583, k583, n583⟩, -, X583, ⟨Lc583, hQ583, l583, y583, z583⟩, st583⟩ := X571.specialBack hx (y := (⟨"java/lang/String", "<init>", "([C)V"⟩ : MethodName)) rfl hown (mvT hZ (wi hw 172 rfl)) (mvT hZ (wi hw 173 rfl)) (mvT hZ (wi hw 174 rfl)) (by decide) (backOf (W := 1) (rm_init1_2 l Z a0 hw [] G1 a571 a547 kc547 na nb h571 n0 Z579 (O2) (P5) A571 f581 f582 f577 (ge574) ((Ne.symm ne572)) (ch_na.le) (ch_nb.le) Old578) hZ (wi hw 174 rfl) (wi hw 6 rfl) (by decide) (by decide)) (g := (mkF m 63 #[.val (.int 2), .val (.ref qr), .val (.ref nr), .val (.int 0), .val (.ref nr), .val (.ref a547)] [(.ref a547), (.ref a571), (.ref a571)])) rfl (by rw [hml]; rfl) (Steps.refl _) (a := a571) (argsL := [(.ref a547)]) (rest := [(.ref a571)]) (lenOf pd___C_V rfl) rfl (by show 2 * 0 + _ ≤ _; exact Nat.le_of_eq rfl) (hb hby dm3_63) (fun _ _ => ⟨rfl, e571, (by decide : 2 + 1 ≤ _), (by decide : 6 + 2 ≤ _)⟩)
 dsimp only [Pt.U, Pt.locs, Pt.cells, Pt.slots] at X583 l583 y583 z583 st583 hQ583
 subst l583 y583 z583
 obtain ⟨t_583, kt_583, rfl, NQ583, K583, pq583_0, fq583_0, fq583_1, fq583_2⟩ := hQ583
 have N584 := Fr.app N564 NQ583
 have f591 := A571.keep K583
 have Kp593 : Keep h0 T583.heap [] := Kp580.trans K583 (allS (Or.inr (Nat.le_trans Kp568.1 (Nat.le_of_eq g571.symm))) all0)
 refine Rch.st (fun _ k => st583.trans k) ?_
 show Rch p e below T583 (mkF m 66 #[.val (.int 2), .val (.ref qr), .val (.ref nr), .val (.int 0), .val (.ref nr), .val (.ref a547)] [(.ref a571)]) _
 exact Rch.retV X583 hx Bd.returns rfl (Or.inr (Or.inr (Or.inr (Or.inr ⟨rfl, rfl, rfl⟩)))) (hb hby dm3_66) (by rw [(rfl : T583.heap = T583.heap)]; exact ⟨a571, t_583, kt_583, rfl, N584, Kp593, (Nat.le_trans Kp568.1 (Nat.le_of_eq g571.symm)), (Nat.le_trans Kp580.1 pq583_0), f591, fq583_0, fq583_1, fq583_2⟩) (by decide) (by decide)

theorem ef_rm_mk_0_3 (m : MethodId) (G1 : Int32) (qr : Addr) (nr : Addr) (kn : ClassId) (na : Int32) (nb : Int32) (nc : Int32)  : entryFrame m #[(.int (3 : Int32)), (.ref qr), (.ref nr), (.int (0 : Int32))] 6 = mkF m 0 #[.val (.int (3 : Int32)), .val (.ref qr), .val (.ref nr), .val (.int (0 : Int32)), .unset, .unset] [] := by  first | (simp [entryFrame, mkF, argsToLocals, Value.category, maxLocals]; done) | rfl
def Q_rm_mk_0_3 (Z : State) (G1 : Int32) (qr : Addr) (nr : Addr) (kn : ClassId) (na : Int32) (nb : Int32) (nc : Int32) (h0 : Heap) (n0 : Nat) (v : Option Value) (h : Heap) (L : List Loc) : Prop := ∃ (ra : Addr) (t : Addr) (kt : ClassId), (v = some (.ref ra)) ∧ (Fr n0 L) ∧ (Keep h0 h []) ∧ (h0.size ≤ ra) ∧ (h0.size ≤ t) ∧ (Exa Z h ra "java/lang/String") ∧ (Fld Z h ra "java/lang/String" "coder" "B" (.int (0 : Int32))) ∧ (Fld Z h ra "java/lang/String" "value" "[B" (.ref t)) ∧ (Arv Z h t kt .byte (3 : Int32) [(.int (own_by na)), (.int (own_by nb)), (.int (own_by nc))] (.int (0 : Int32)))
set_option maxRecDepth 65536 in
set_option maxHeartbeats 40000000 in
theorem rm_mk_0_3 (l : Launch) (Z : State) (a0 : Array Value) (hw : ∀ d ∈ tables_1, d.before a0 Z = true) (ws : List Jvm.Cond) (G1 : Int32) (qr : Addr) (nr : Addr) (kn : ClassId) (na : Int32) (nb : Int32) (nc : Int32) (h0 : Heap) (n0 : Nat) (Z0 : n0 ≤ h0.size) (O2 : Sta Z Z.heap "java/lang/String" "COMPACT_STRINGS" "Z" (.int G1)) (P5 : ¬ G1 = 0) (f2 : Arv Z h0 nr kn .char (3 : Int32) [(.int na), (.int nb), (.int nc)] (.int (0 : Int32))) (ch_na : Ch8 na) (ch_nb : Ch8 nb) (ch_nc : Ch8 nc) (Old0 : OldL Z n0 h0) :
    MetFree l (⟨"com/example/alcance/alcance/IdentifiersQuotedPinLaw", "make", "(I[C[CZ)Ljava/lang/String;"⟩ : MethodName) (head1 (Jvm.Cond.code (⟨"com/example/alcance/alcance/IdentifiersQuotedPinLaw", "make", "(I[C[CZ)Ljava/lang/String;"⟩ : MethodName) method_3_code 6 (some (.object "java/lang/String")) :: ws) ({ frames := 4, cells := 3, slots := 10, locals := 66 } : Room)) (fun a U => a = #[(.int (3 : Int32)), (.ref qr), (.ref nr), (.int (0 : Int32))] ∧ Z.Warmed39 U.vm ∧ U.heap = h0) (fun _ _ _ _ _ => True) (fun _ U o U' => ∃ v L, o = .returned v ∧ Q_rm_mk_0_3 Z G1 qr nr kn na nb nc h0 n0 v U'.heap L ∧ FrameEnd U o U' L ({ frames := 4, cells := 3, slots := 10, locals := 66 } : Room).cells ({ frames := 4, cells := 3, slots := 10, locals := 66 } : Room).slots) := by
 refine MetFree.of_bodySF (plainFor_of_name pn_com_example_alcance_alcance_IdentifiersQuotedPinLaw) hisR ?_
 intro p e s m args below meth c s₁ Bd hml0 hP hK
 obtain ⟨rfl, hZ, hh⟩ := hP
 have hx := Bd.exec
 have hby := Bd.bytes
 have hml : c.maxLocals = 6 := hml0
 have hown : s.vm.findClass "com/example/alcance/alcance/IdentifiersQuotedPinLaw" = some m.cls := findClass_of_methodNamed Bd.named
 have hnm := (name_of_methodNamed Bd.named Bd.method).1
 have X0 : Stand p l e ({ frames := 4, cells := 3, slots := 10, locals := 66 } : Room) s m #[(.int (3 : Int32)), (.ref qr), (.ref nr), (.int (0 : Int32))] below meth c s₁ [] 0 0 := Stand.of_body Bd
 have e0 : s₁.heap = h0 := by rw [← hh, Bd.state]; rfl
 have N0 := Fr.nil n0
 have K00 : Keep h0 h0 [] := Keep.refl _ _
 show Rch p e below s₁ (entryFrame m #[(.int (3 : Int32)), (.ref qr), (.ref nr), (.int (0 : Int32))] 6) (FinP s (Q_rm_mk_0_3 Z G1 qr nr kn na nb nc h0 n0) 3 10)
 refine Rch.cast (ef_rm_mk_0_3 m G1 qr nr kn na nb nc) ?_
 show Rch p e below s₁ (mkF m 0 #[.val (.int 3), .val (.ref qr), .val (.ref nr), .val (.int 0), .unset, .unset] []) _
 refine w_iloadN (pc' := 1) X0 hx hby dm3_0 rfl rfl ?_
 refine w_ifYes (pc' := 8) X0 hx hby dm3_1 (XT.i0_eq_t (by decide)) (by decide) ?_
 refine w_aloadN (pc' := 9) X0 hx hby dm3_8 rfl rfl rfl ?_
 refine w_astore (pc' := 11) (l' := #[.val (.int 3), .val (.ref qr), .val (.ref nr), .val (.int 0), .val (.ref nr), .unset]) X0 hx hby dm3_9 rfl rfl rfl ?_
 refine w_iloadN (pc' := 12) X0 hx hby dm3_11 rfl rfl ?_
 refine w_ifYes (pc' := 18) X0 hx hby dm3_12 (XT.i0_ne_t (by decide)) (by decide) ?_
 refine w_iloadN (pc' := 19) X0 hx hby dm3_18 rfl rfl ?_
 refine w_iconst (pc' := 20) (v := 1) X0 hx hby dm3_19 rfl rfl ?_
 refine w_icmpYes (pc' := 31) X0 hx hby dm3_20 (XT.ii_ne_t (by decide)) (by decide) ?_
 refine w_iloadN (pc' := 32) X0 hx hby dm3_31 rfl rfl ?_
 refine w_iconst (pc' := 33) (v := 2) X0 hx hby dm3_32 rfl rfl ?_
 refine w_icmpYes (pc' := 67) X0 hx hby dm3_33 (XT.ii_ne_t (by decide)) (by decide) ?_
 refine w_iconst (pc' := 68) (v := 3) X0 hx hby dm3_67 rfl rfl ?_
 obtain ⟨T595, h595, kc595, X595, e595, E595, A595, st595⟩ := newP X0 hx hZ (wi hw 0 rfl) e0 (g := (mkF m 68 #[.val (.int 3), .val (.ref qr), .val (.ref nr), .val (.int 0), .val (.ref nr), .unset] [(.int 3)])) rfl (hb hby dm3_68) rfl (by decide : ¬ ((3 : Int32) < (0 : Int32))) (cap := 3) (by decide : (3 : Int32).toNatClampNeg ≤ 3) (by decide) (by decide) (by decide)
 obtain ⟨a595, g595⟩ : ∃ z, z = h0.size := ⟨_, rfl⟩
 rw [← g595] at A595 st595
 have ne596 : nr ≠ a595 := by rw [g595]; exact Nat.ne_of_lt f2.lt
 have ge597 : n0 ≤ a595 := Nat.le_trans Z0 (Nat.le_of_eq g595.symm)
 have f599 := f2.ext E595
 have Old600 := Old0.ext E595
 have Z601 := Nat.le_trans Z0 E595.1
 have Kp602 : Keep h0 h595 [] := K00.ext E595
 have f603 : Arv Z h595 a595 kc595 .char (3 : Int32) [(.int (0 : Int32)), (.int (0 : Int32)), (.int (0 : Int32))] (.int (0 : Int32)) := (Arv.new A595 (by decide : ¬ ((3 : Int32) < (0 : Int32)))).pad (pad_rep [] (.int (0 : Int32)) 3)
 refine Rch.st (fun _ k => st595 _ k) ?_
 show Rch p e below T595 (mkF m 70 #[.val (.int 3), .val (.ref qr), .val (.ref nr), .val (.int 0), .val (.ref nr), .unset] [(.ref a595)]) _
 refine w_astore (pc' := 72) (l' := #[.val (.int 3), .val (.ref qr), .val (.ref nr), .val (.int 0), .val (.ref nr), .val (.ref a595)]) X595 hx hby dm3_70 rfl rfl rfl ?_
 refine w_aload (pc' := 74) X595 hx hby dm3_72 rfl rfl rfl ?_
 refine w_iconst (pc' := 75) (v := 0) X595 hx hby dm3_74 rfl rfl ?_
 refine w_aload (pc' := 77) X595 hx hby dm3_75 rfl rfl rfl ?_
 refine w_iconst (pc' := 78) (v := 0) X595 hx hby dm3_77 rfl rfl ?_
 refine Rch.st (fun _ k => own_ldC X595 hx hZ e595 f599 (j := (0 : Int32)) ⟨by decide, by decide⟩ (by rfl) rfl rfl (hb hby dm3_78) k) ?_
 show Rch p e below T595 (mkF m 79 #[.val (.int 3), .val (.ref qr), .val (.ref nr), .val (.int 0), .val (.ref nr), .val (.ref a595)] [(.int na), (.int 0), (.ref a595)]) _
 obtain ⟨T604, h604, X604, e604, W604, V604, st604⟩ := own_stC X595 hx hZ e595 f603 (j := (0 : Int32)) ⟨by decide, by decide⟩ 0 (by decide) (by decide : 0 < 3) (g := (mkF m 79 #[.val (.int 3), .val (.ref qr), .val (.ref nr), .val (.int 0), .val (.ref nr), .val (.ref a595)] [(.int na), (.int 0), (.ref a595)])) rfl rfl (hb hby dm3_79)
 have N605 := Fr.snoc X604 N0 ge597
 have f606 := f599.other W604 ne596
 have Old607 := Old600.wr W604 ge597
 have Z608 := Nat.le_trans Z601 (Keep.of_wr W604).1
 have Kp609 : Keep h0 h604 [] := Kp602.wr W604 (Or.inr (Nat.le_trans K00.1 (Nat.le_of_eq g595.symm)))
 have f610 : Arv Z h604 a595 kc595 .char (3 : Int32) [(.int (nar .char na)), (.int (0 : Int32)), (.int (0 : Int32))] (.int (0 : Int32)) := V604
 refine Rch.st (fun _ k => st604 _ k) ?_
 show Rch p e below T604 (mkF m 80 #[.val (.int 3), .val (.ref qr), .val (.ref nr), .val (.int 0), .val (.ref nr), .val (.ref a595)] []) _
 refine w_aload (pc' := 82) X604 hx hby dm3_80 rfl rfl rfl ?_
 refine w_iconst (pc' := 83) (v := 1) X604 hx hby dm3_82 rfl rfl ?_
 refine w_aload (pc' := 85) X604 hx hby dm3_83 rfl rfl rfl ?_
 refine w_iconst (pc' := 86) (v := 1) X604 hx hby dm3_85 rfl rfl ?_
 refine Rch.st (fun _ k => own_ldC X604 hx hZ e604 f606 (j := (1 : Int32)) ⟨by decide, by decide⟩ (by rfl) rfl rfl (hb hby dm3_86) k) ?_
 show Rch p e below T604 (mkF m 87 #[.val (.int 3), .val (.ref qr), .val (.ref nr), .val (.int 0), .val (.ref nr), .val (.ref a595)] [(.int nb), (.int 1), (.ref a595)]) _
 obtain ⟨T611, h611, X611, e611, W611, V611, st611⟩ := own_stC X604 hx hZ e604 f610 (j := (1 : Int32)) ⟨by decide, by decide⟩ 1 (by decide) (by decide : 1 < 3) (g := (mkF m 87 #[.val (.int 3), .val (.ref qr), .val (.ref nr), .val (.int 0), .val (.ref nr), .val (.ref a595)] [(.int nb), (.int 1), (.ref a595)])) rfl rfl (hb hby dm3_87)
 have N612 := Fr.snoc X611 N605 ge597
 have f613 := f606.other W611 ne596
 have Old614 := Old607.wr W611 ge597
 have Z615 := Nat.le_trans Z608 (Keep.of_wr W611).1
 have Kp616 : Keep h0 h611 [] := Kp609.wr W611 (Or.inr (Nat.le_trans K00.1 (Nat.le_of_eq g595.symm)))
 have f617 : Arv Z h611 a595 kc595 .char (3 : Int32) [(.int (nar .char na)), (.int (nar .char nb)), (.int (0 : Int32))] (.int (0 : Int32)) := V611
 refine Rch.st (fun _ k => st611 _ k) ?_
 show Rch p e below T611 (mkF m 88 #[.val (.int 3), .val (.ref qr), .val (.ref nr), .val (.int 0), .val (.ref nr), .val (.ref a595)] []) _
 refine w_aload (pc' := 90) X611 hx hby dm3_88 rfl rfl rfl ?_
 refine w_iconst (pc' := 91) (v := 2) X611 hx hby dm3_90 rfl rfl ?_
 refine w_aload (pc' := 93) X611 hx hby dm3_91 rfl rfl rfl ?_
 refine w_iconst (pc' := 94) (v := 2) X611 hx hby dm3_93 rfl rfl ?_
 refine Rch.st (fun _ k => own_ldC X611 hx hZ e611 f613 (j := (2 : Int32)) ⟨by decide, by decide⟩ (by rfl) rfl rfl (hb hby dm3_94) k) ?_
 show Rch p e below T611 (mkF m 95 #[.val (.int 3), .val (.ref qr), .val (.ref nr), .val (.int 0), .val (.ref nr), .val (.ref a595)] [(.int nc), (.int 2), (.ref a595)]) _
 obtain ⟨T618, h618, X618, e618, W618, V618, st618⟩ := own_stC X611 hx hZ e611 f617 (j := (2 : Int32)) ⟨by decide, by decide⟩ 2 (by decide) (by decide : 2 < 3) (g := (mkF m 95 #[.val (.int 3), .val (.ref qr), .val (.ref nr), .val (.int 0), .val (.ref nr), .val (.ref a595)] [(.int nc), (.int 2), (.ref a595)])) rfl rfl (hb hby dm3_95)
 have N619 := Fr.snoc X618 N612 ge597
 have Old621 := Old614.wr W618 ge597
 have Z622 := Nat.le_trans Z615 (Keep.of_wr W618).1
 have Kp623 : Keep h0 h618 [] := Kp616.wr W618 (Or.inr (Nat.le_trans K00.1 (Nat.le_of_eq g595.symm)))
 have f624 : Arv Z h618 a595 kc595 .char (3 : Int32) [(.int (nar .char na)), (.int (nar .char nb)), (.int (nar .char nc))] (.int (0 : Int32)) := V618
 refine Rch.st (fun _ k => st618 _ k) ?_
 show Rch p e below T618 (mkF m 96 #[.val (.int 3), .val (.ref qr), .val (.ref nr), .val (.int 0), .val (.ref nr), .val (.ref a595)] []) _
 have f625 : Arv Z h618 a595 kc595 .char (3 : Int32) [(.int na), (.int nb), (.int nc)] (.int (0 : Int32)) := by have z := f624; rw [ch_na.nr, ch_nb.nr, ch_nc.nr] at z; exact z
 obtain ⟨T626, h626, X626, e626, E626, A626, D626, -, st626⟩ := newO X618 hx hZ hown (wi hw 171 rfl) (wi hw 7 rfl) (wi hw 6 rfl) e618 (g := (mkF m 96 #[.val (.int 3), .val (.ref qr), .val (.ref nr), .val (.int 0), .val (.ref nr), .val (.ref a595)] [])) rfl (hb hby dm3_96) (by decide) (by decide)
 obtain ⟨a626, g626⟩ : ∃ z, z = h618.size := ⟨_, rfl⟩
 rw [← g626] at A626 D626 st626
 have ne627 : a595 ≠ a626 := by rw [g626]; exact Nat.ne_of_lt f625.lt
 have ge629 : n0 ≤ a626 := Nat.le_trans Z622 (Nat.le_of_eq g626.symm)
 have f632 := f625.ext E626
 have Old633 := Old621.ext E626
 have Z634 := Nat.le_trans Z622 E626.1
 have Kp635 : Keep h0 h626 [] := Kp623.ext E626
 have f636 : Fld Z h626 a626 "java/lang/String" "coder" "B" (.int (0 : Int32)) := D626 (Or.inr (wi hw 10 rfl)) (ty := .byte) (by decide)
 have f637 : Fld Z h626 a626 "java/lang/String" "value" "[B" .null := D626 (Or.inr (wi hw 9 rfl)) (ty := (.array .byte)) (by decide)
 refine Rch.st (fun _ k => st626 _ k) ?_
 show Rch p e below T626 (mkF m 99 #[.val (.int 3), .val (.ref qr), .val (.ref nr), .val (.int 0), .val (.ref nr), .val (.ref a595)] [(.ref a626)]) _
 refine w_dup (pc' := 100) X626 hx hby dm3_99 rfl rfl ?_
 refine w_aload (pc' := 102) X626 hx hby dm3_100 rfl rfl rfl ?_
 obtain ⟨_, _, ⟨T638, L638, k638, n638⟩, -, X638, ⟨Lc638, hQ638, l638, y638, z638⟩, st638⟩ := X626.specialBack hx (y := (⟨"java/lang/String", "<init>", "([C)V"⟩ : MethodName)) rfl hown (mvT hZ (wi hw 172 rfl)) (mvT hZ (wi hw 173 rfl)) (mvT hZ (wi hw 174 rfl)) (by decide) (backOf (W := 1) (rm_init1_3 l Z a0 hw [] G1 a626 a595 kc595 na nb nc h626 n0 Z634 (O2) (P5) A626 f636 f637 f632 (ge629) ((Ne.symm ne627)) (ch_na.le) (ch_nb.le) (ch_nc.le) Old633) hZ (wi hw 174 rfl) (wi hw 6 rfl) (by decide) (by decide)) (g := (mkF m 102 #[.val (.int 3), .val (.ref qr), .val (.ref nr), .val (.int 0), .val (.ref nr), .val (.ref a595)] [(.ref a595), (.ref a626), (.ref a626)])) rfl (by rw [hml]; rfl) (Steps.refl _) (a := a626) (argsL := [(.ref a595)]) (rest := [(.ref a626)]) (lenOf pd___C_V rfl) rfl (by show 2 * 0 + _ ≤ _; exact Nat.le_of_eq rfl) (hb hby dm3_102) (fun _ _ => ⟨rfl, e626, (by decide : 2 + 1 ≤ _), (by decide : 7 + 3 ≤ _)⟩)
 dsimp only [Pt.U, Pt.locs, Pt.cells, Pt.slots] at X638 l638 y638 z638 st638 hQ638
 subst l638 y638 z638
 obtain ⟨t_638, kt_638, rfl, NQ638, K638, pq638_0, fq638_0, fq638_1, fq638_2⟩ := hQ638
 have N639 := Fr.app N619 NQ638
 have f646 := A626.keep K638
 have Kp648 : Keep h0 T638.heap [] := Kp635.trans K638 (allS (Or.inr (Nat.le_trans Kp623.1 (Nat.le_of_eq g626.symm))) all0)
 refine Rch.st (fun _ k => st638.trans k) ?_
 show Rch p e below T638 (mkF m 105 #[.val (.int 3), .val (.ref qr), .val (.ref nr), .val (.int 0), .val (.ref nr), .val (.ref a595)] [(.ref a626)]) _
 exact Rch.retV X638 hx Bd.returns rfl (Or.inr (Or.inr (Or.inr (Or.inr ⟨rfl, rfl, rfl⟩)))) (hb hby dm3_105) (by rw [(rfl : T638.heap = T638.heap)]; exact ⟨a626, t_638, kt_638, rfl, N639, Kp648, (Nat.le_trans Kp623.1 (Nat.le_of_eq g626.symm)), (Nat.le_trans Kp635.1 pq638_0), f646, fq638_0, fq638_1, fq638_2⟩) (by decide) (by decide)

theorem ef_rm_mk_1_0 (m : MethodId) (qr : Addr) (nr : Addr)  : entryFrame m #[(.int (0 : Int32)), (.ref qr), (.ref nr), (.int (1 : Int32))] 6 = mkF m 0 #[.val (.int (0 : Int32)), .val (.ref qr), .val (.ref nr), .val (.int (1 : Int32)), .unset, .unset] [] := by  first | (simp [entryFrame, mkF, argsToLocals, Value.category, maxLocals]; done) | rfl
def Q_rm_mk_1_0 (Z : State) (qr : Addr) (nr : Addr) (h0 : Heap) (n0 : Nat) (v : Option Value) (h : Heap) (vm : Vm) (L : List Loc) : Prop := ∃ (ra : Addr) (t : Addr) (kt : ClassId), (v = some (.ref ra)) ∧ (Fr n0 L) ∧ (Keep h0 h []) ∧ (Exa Z h ra "java/lang/String") ∧ (Fld Z h ra "java/lang/String" "coder" "B" (.int (0 : Int32))) ∧ (Fld Z h ra "java/lang/String" "value" "[B" (.ref t)) ∧ (Arv Z h t kt .byte (0 : Int32) [] (.int (0 : Int32))) ∧ (IB Z vm ([""] : List String)) ∧ (Lit (Z.setVm vm) "com/example/alcance/alcance/IdentifiersQuotedPinLaw" 32 ra)
set_option maxRecDepth 65536 in
set_option maxHeartbeats 40000000 in
theorem rm_mk_1_0 (l : Launch) (Z : State) (a0 : Array Value) (hw : ∀ d ∈ tables_1, d.before a0 Z = true) (ws : List Jvm.Cond) (qr : Addr) (nr : Addr) (h0 : Heap) (n0 : Nat) (Z0 : n0 ≤ h0.size) (H32 : Jvm.Lit.constHeld Z "com/example/alcance/alcance/IdentifiersQuotedPinLaw" 32) (hcw : Jvm.Lit.compactW.before a0 Z = true) (Old0 : OldL Z n0 h0) :
    MetFree l (⟨"com/example/alcance/alcance/IdentifiersQuotedPinLaw", "make", "(I[C[CZ)Ljava/lang/String;"⟩ : MethodName) (head1 (Jvm.Cond.code (⟨"com/example/alcance/alcance/IdentifiersQuotedPinLaw", "make", "(I[C[CZ)Ljava/lang/String;"⟩ : MethodName) method_3_code 6 (some (.object "java/lang/String")) :: ws) ({ frames := 0, cells := 2, slots := 4, locals := 0 } : Room)) (fun a U => a = #[(.int (0 : Int32)), (.ref qr), (.ref nr), (.int (1 : Int32))] ∧ Z.Warmed39 U.vm ∧ U.heap = h0 ∧ IB Z U.vm ([] : List String)) (fun _ _ _ _ _ => True) (fun _ U o U' => ∃ v L, o = .returned v ∧ Q_rm_mk_1_0 Z qr nr h0 n0 v U'.heap U'.vm L ∧ ReturnedEndW U o U' L ({ frames := 0, cells := 2, slots := 4, locals := 0 } : Room).cells ({ frames := 0, cells := 2, slots := 4, locals := 0 } : Room).slots) := by
 refine MetFree.of_bodySF (plainFor_of_name pn_com_example_alcance_alcance_IdentifiersQuotedPinLaw) hisR ?_
 intro p e s m args below meth c s₁ Bd hml0 hP hK
 obtain ⟨rfl, hZ, hh, hI⟩ := hP
 have hx := Bd.exec
 have hby := Bd.bytes
 have hml : c.maxLocals = 6 := hml0
 have hown : s.vm.findClass "com/example/alcance/alcance/IdentifiersQuotedPinLaw" = some m.cls := findClass_of_methodNamed Bd.named
 have hnm := (name_of_methodNamed Bd.named Bd.method).1
 have X0 : Stand p l e ({ frames := 0, cells := 2, slots := 4, locals := 0 } : Room) (s.setVm s.vm) m #[(.int (0 : Int32)), (.ref qr), (.ref nr), (.int (1 : Int32))] below meth c s₁ [] 0 0 := Stand.of_body Bd
 have e0 : s₁.heap = h0 := by rw [← hh, Bd.state]; rfl
 have N0 := Fr.nil n0
 have K00 : Keep h0 h0 [] := Keep.refl _ _
 have hS0 : s.Since s.vm s.heap.size := (State.WarmedH.refl s).since _
 have hk0 : s.heap.size ≤ h0.size := by rw [hh]; exact Nat.le_refl _
 have hkeep : ∀ (b : Addr) (cl : Cell), Z.heap[b]? = some cl → s.heap[b]? = some cl := by rw [hh]; exact Old0.2.2
 show Rch p e below s₁ (entryFrame m #[(.int (0 : Int32)), (.ref qr), (.ref nr), (.int (1 : Int32))] 6) (FinW s (Q_rm_mk_1_0 Z qr nr h0 n0) 2 4)
 refine Rch.cast (ef_rm_mk_1_0 m qr nr) ?_
 have Z0f := Nat.le_refl h0.size
 have N0f := Fr.nil h0.size
 have OldF := Old0.up Z0
 show Rch p e below s₁ (mkF m 0 #[.val (.int 0), .val (.ref qr), .val (.ref nr), .val (.int 1), .unset, .unset] []) _
 refine w_iloadN (pc' := 1) X0 hx hby dm3_0 rfl rfl ?_
 refine w_ifNo (pc' := 4) X0 hx hby dm3_1 (XT.i0_eq_f (by decide)) rfl ?_
 refine w_aloadN (pc' := 5) X0 hx hby dm3_4 rfl rfl rfl ?_
 refine w_goto (pc' := 9) X0 hx hby dm3_5 (by decide) ?_
 refine w_astore (pc' := 11) (l' := #[.val (.int 0), .val (.ref qr), .val (.ref nr), .val (.int 1), .val (.ref qr), .unset]) X0 hx hby dm3_9 rfl rfl rfl ?_
 refine w_iloadN (pc' := 12) X0 hx hby dm3_11 rfl rfl ?_
 refine w_ifNo (pc' := 15) X0 hx hby dm3_12 (XT.i0_ne_f (by decide)) rfl ?_
 obtain ⟨a650, T650, h650, k650, b650, kc650, X650, e650, E650, hS650, hk650, hZ650, hown650, Ex650, Fc650, Fv650, Va650, lt650, lu650, I650, Li650, st650⟩ := ldcSVL (s := s) (vm0 := s.vm) X0 hx hZ hown (wi hw 5 rfl) (fun d hd => hw d ((by decide +kernel : ∀ d ∈ Bundle.stringAtoms, d ∈ tables_1) d hd)) e0 hS0 hk0 (Fr.nil _) hkeep hI (by decide) H32 hcw (vs := []) (z := (0 : Int32)) ⟨by decide, by decide⟩ (by decide) (by decide) (g := (mkF m 15 #[.val (.int 0), .val (.ref qr), .val (.ref nr), .val (.int 1), .val (.ref qr), .unset] [])) rfl (hb hby dm3_15) (n := 0) (by decide) (by decide) (by decide) (by decide)
 have Kp654 : Keep h0 h650 [] := K00.ext E650
 refine Rch.st (fun _ k => st650 _ k) ?_
 show Rch p e below T650 (mkF m 17 #[.val (.int 0), .val (.ref qr), .val (.ref nr), .val (.int 1), .val (.ref qr), .unset] [(.ref a650)]) _
 exact Rch.retVW X650 hx hS650 (by rw [e650]; exact hk650) Bd.returns rfl (Or.inr (Or.inr (Or.inr (Or.inr ⟨rfl, rfl, rfl⟩)))) (hb hby dm3_17) (by rw [e650]; exact ⟨a650, b650, kc650, rfl, (own_Fr Z0 N0f), Kp654, Ex650, Fc650, Fv650, Va650, own_ib_mono (own_ib (s := s.setVm T650.vm) I650 X650.warmed) (by decide), own_lit (s := s) (vm := T650.vm) Li650 X650.warmed.wide⟩) (by decide) (by decide)

theorem ef_rm_mk_0_0 (m : MethodId) (qr : Addr) (nr : Addr)  : entryFrame m #[(.int (0 : Int32)), (.ref qr), (.ref nr), (.int (0 : Int32))] 6 = mkF m 0 #[.val (.int (0 : Int32)), .val (.ref qr), .val (.ref nr), .val (.int (0 : Int32)), .unset, .unset] [] := by  first | (simp [entryFrame, mkF, argsToLocals, Value.category, maxLocals]; done) | rfl
def Q_rm_mk_0_0 (Z : State) (qr : Addr) (nr : Addr) (h0 : Heap) (n0 : Nat) (v : Option Value) (h : Heap) (vm : Vm) (L : List Loc) : Prop := ∃ (ra : Addr) (t : Addr) (kt : ClassId), (v = some (.ref ra)) ∧ (Fr n0 L) ∧ (Keep h0 h []) ∧ (Exa Z h ra "java/lang/String") ∧ (Fld Z h ra "java/lang/String" "coder" "B" (.int (0 : Int32))) ∧ (Fld Z h ra "java/lang/String" "value" "[B" (.ref t)) ∧ (Arv Z h t kt .byte (0 : Int32) [] (.int (0 : Int32))) ∧ (IB Z vm ([""] : List String)) ∧ (Lit (Z.setVm vm) "com/example/alcance/alcance/IdentifiersQuotedPinLaw" 32 ra)
set_option maxRecDepth 65536 in
set_option maxHeartbeats 40000000 in
theorem rm_mk_0_0 (l : Launch) (Z : State) (a0 : Array Value) (hw : ∀ d ∈ tables_1, d.before a0 Z = true) (ws : List Jvm.Cond) (qr : Addr) (nr : Addr) (h0 : Heap) (n0 : Nat) (Z0 : n0 ≤ h0.size) (H32 : Jvm.Lit.constHeld Z "com/example/alcance/alcance/IdentifiersQuotedPinLaw" 32) (hcw : Jvm.Lit.compactW.before a0 Z = true) (Old0 : OldL Z n0 h0) :
    MetFree l (⟨"com/example/alcance/alcance/IdentifiersQuotedPinLaw", "make", "(I[C[CZ)Ljava/lang/String;"⟩ : MethodName) (head1 (Jvm.Cond.code (⟨"com/example/alcance/alcance/IdentifiersQuotedPinLaw", "make", "(I[C[CZ)Ljava/lang/String;"⟩ : MethodName) method_3_code 6 (some (.object "java/lang/String")) :: ws) ({ frames := 0, cells := 2, slots := 4, locals := 0 } : Room)) (fun a U => a = #[(.int (0 : Int32)), (.ref qr), (.ref nr), (.int (0 : Int32))] ∧ Z.Warmed39 U.vm ∧ U.heap = h0 ∧ IB Z U.vm ([] : List String)) (fun _ _ _ _ _ => True) (fun _ U o U' => ∃ v L, o = .returned v ∧ Q_rm_mk_0_0 Z qr nr h0 n0 v U'.heap U'.vm L ∧ ReturnedEndW U o U' L ({ frames := 0, cells := 2, slots := 4, locals := 0 } : Room).cells ({ frames := 0, cells := 2, slots := 4, locals := 0 } : Room).slots) := by
 refine MetFree.of_bodySF (plainFor_of_name pn_com_example_alcance_alcance_IdentifiersQuotedPinLaw) hisR ?_
 intro p e s m args below meth c s₁ Bd hml0 hP hK
 obtain ⟨rfl, hZ, hh, hI⟩ := hP
 have hx := Bd.exec
 have hby := Bd.bytes
 have hml : c.maxLocals = 6 := hml0
 have hown : s.vm.findClass "com/example/alcance/alcance/IdentifiersQuotedPinLaw" = some m.cls := findClass_of_methodNamed Bd.named
 have hnm := (name_of_methodNamed Bd.named Bd.method).1
 have X0 : Stand p l e ({ frames := 0, cells := 2, slots := 4, locals := 0 } : Room) (s.setVm s.vm) m #[(.int (0 : Int32)), (.ref qr), (.ref nr), (.int (0 : Int32))] below meth c s₁ [] 0 0 := Stand.of_body Bd
 have e0 : s₁.heap = h0 := by rw [← hh, Bd.state]; rfl
 have N0 := Fr.nil n0
 have K00 : Keep h0 h0 [] := Keep.refl _ _
 have hS0 : s.Since s.vm s.heap.size := (State.WarmedH.refl s).since _
 have hk0 : s.heap.size ≤ h0.size := by rw [hh]; exact Nat.le_refl _
 have hkeep : ∀ (b : Addr) (cl : Cell), Z.heap[b]? = some cl → s.heap[b]? = some cl := by rw [hh]; exact Old0.2.2
 show Rch p e below s₁ (entryFrame m #[(.int (0 : Int32)), (.ref qr), (.ref nr), (.int (0 : Int32))] 6) (FinW s (Q_rm_mk_0_0 Z qr nr h0 n0) 2 4)
 refine Rch.cast (ef_rm_mk_0_0 m qr nr) ?_
 have Z0f := Nat.le_refl h0.size
 have N0f := Fr.nil h0.size
 have OldF := Old0.up Z0
 show Rch p e below s₁ (mkF m 0 #[.val (.int 0), .val (.ref qr), .val (.ref nr), .val (.int 0), .unset, .unset] []) _
 refine w_iloadN (pc' := 1) X0 hx hby dm3_0 rfl rfl ?_
 refine w_ifYes (pc' := 8) X0 hx hby dm3_1 (XT.i0_eq_t (by decide)) (by decide) ?_
 refine w_aloadN (pc' := 9) X0 hx hby dm3_8 rfl rfl rfl ?_
 refine w_astore (pc' := 11) (l' := #[.val (.int 0), .val (.ref qr), .val (.ref nr), .val (.int 0), .val (.ref nr), .unset]) X0 hx hby dm3_9 rfl rfl rfl ?_
 refine w_iloadN (pc' := 12) X0 hx hby dm3_11 rfl rfl ?_
 refine w_ifNo (pc' := 15) X0 hx hby dm3_12 (XT.i0_ne_f (by decide)) rfl ?_
 obtain ⟨a655, T655, h655, k655, b655, kc655, X655, e655, E655, hS655, hk655, hZ655, hown655, Ex655, Fc655, Fv655, Va655, lt655, lu655, I655, Li655, st655⟩ := ldcSVL (s := s) (vm0 := s.vm) X0 hx hZ hown (wi hw 5 rfl) (fun d hd => hw d ((by decide +kernel : ∀ d ∈ Bundle.stringAtoms, d ∈ tables_1) d hd)) e0 hS0 hk0 (Fr.nil _) hkeep hI (by decide) H32 hcw (vs := []) (z := (0 : Int32)) ⟨by decide, by decide⟩ (by decide) (by decide) (g := (mkF m 15 #[.val (.int 0), .val (.ref qr), .val (.ref nr), .val (.int 0), .val (.ref nr), .unset] [])) rfl (hb hby dm3_15) (n := 0) (by decide) (by decide) (by decide) (by decide)
 have Kp659 : Keep h0 h655 [] := K00.ext E655
 refine Rch.st (fun _ k => st655 _ k) ?_
 show Rch p e below T655 (mkF m 17 #[.val (.int 0), .val (.ref qr), .val (.ref nr), .val (.int 0), .val (.ref nr), .unset] [(.ref a655)]) _
 exact Rch.retVW X655 hx hS655 (by rw [e655]; exact hk655) Bd.returns rfl (Or.inr (Or.inr (Or.inr (Or.inr ⟨rfl, rfl, rfl⟩)))) (hb hby dm3_17) (by rw [e655]; exact ⟨a655, b655, kc655, rfl, (own_Fr Z0 N0f), Kp659, Ex655, Fc655, Fv655, Va655, own_ib_mono (own_ib (s := s.setVm T655.vm) I655 X655.warmed) (by decide), own_lit (s := s) (vm := T655.vm) Li655 X655.warmed.wide⟩) (by decide) (by decide)

theorem ef_rm_mk_again (m : MethodId) (qr : Addr) (nr : Addr) (ra : Addr)  : entryFrame m #[(.int (0 : Int32)), (.ref qr), (.ref nr), (.int (0 : Int32))] 6 = mkF m 0 #[.val (.int (0 : Int32)), .val (.ref qr), .val (.ref nr), .val (.int (0 : Int32)), .unset, .unset] [] := by  first | (simp [entryFrame, mkF, argsToLocals, Value.category, maxLocals]; done) | rfl
def Q_rm_mk_again (Z : State) (qr : Addr) (nr : Addr) (ra : Addr) (h0 : Heap) (n0 : Nat) (v : Option Value) (h : Heap) (vm : Vm) (L : List Loc) : Prop := (v = some (.ref ra)) ∧ (Fr n0 L) ∧ (h = h0) ∧ (IB Z vm ([""] : List String)) ∧ (Lit (Z.setVm vm) "com/example/alcance/alcance/IdentifiersQuotedPinLaw" 32 ra)
set_option maxRecDepth 65536 in
set_option maxHeartbeats 40000000 in
theorem rm_mk_again (l : Launch) (Z : State) (a0 : Array Value) (hw : ∀ d ∈ tables_1, d.before a0 Z = true) (ws : List Jvm.Cond) (qr : Addr) (nr : Addr) (ra : Addr) (h0 : Heap) (n0 : Nat) (Z0 : n0 ≤ h0.size) (Old0 : OldL Z n0 h0) :
    MetFree l (⟨"com/example/alcance/alcance/IdentifiersQuotedPinLaw", "make", "(I[C[CZ)Ljava/lang/String;"⟩ : MethodName) (head1 (Jvm.Cond.code (⟨"com/example/alcance/alcance/IdentifiersQuotedPinLaw", "make", "(I[C[CZ)Ljava/lang/String;"⟩ : MethodName) method_3_code 6 (some (.object "java/lang/String")) :: ws) ({ frames := 0, cells := 0, slots := 0, locals := 0 } : Room)) (fun a U => a = #[(.int (0 : Int32)), (.ref qr), (.ref nr), (.int (0 : Int32))] ∧ Z.Warmed39 U.vm ∧ U.heap = h0 ∧ IB Z U.vm ([""] : List String) ∧ Lit (Z.setVm U.vm) "com/example/alcance/alcance/IdentifiersQuotedPinLaw" 32 ra) (fun _ _ _ _ _ => True) (fun _ U o U' => ∃ v L, o = .returned v ∧ Q_rm_mk_again Z qr nr ra h0 n0 v U'.heap U'.vm L ∧ ReturnedEndW U o U' L ({ frames := 0, cells := 0, slots := 0, locals := 0 } : Room).cells ({ frames := 0, cells := 0, slots := 0, locals := 0 } : Room).slots) := by
 refine MetFree.of_bodySF (plainFor_of_name pn_com_example_alcance_alcance_IdentifiersQuotedPinLaw) hisR ?_
 intro p e s m args below meth c s₁ Bd hml0 hP hK
 obtain ⟨rfl, hZ, hh, hI, hLi0⟩ := hP
 have hx := Bd.exec
 have hby := Bd.bytes
 have hml : c.maxLocals = 6 := hml0
 have hown : s.vm.findClass "com/example/alcance/alcance/IdentifiersQuotedPinLaw" = some m.cls := findClass_of_methodNamed Bd.named
 have hnm := (name_of_methodNamed Bd.named Bd.method).1
 have X0 : Stand p l e ({ frames := 0, cells := 0, slots := 0, locals := 0 } : Room) (s.setVm s.vm) m #[(.int (0 : Int32)), (.ref qr), (.ref nr), (.int (0 : Int32))] below meth c s₁ [] 0 0 := Stand.of_body Bd
 have e0 : s₁.heap = h0 := by rw [← hh, Bd.state]; rfl
 have N0 := Fr.nil n0
 have K00 : Keep h0 h0 [] := Keep.refl _ _
 have hS0 : s.Since s.vm s.heap.size := (State.WarmedH.refl s).since _
 have hk0 : s.heap.size ≤ h0.size := by rw [hh]; exact Nat.le_refl _
 have hkeep : ∀ (b : Addr) (cl : Cell), Z.heap[b]? = some cl → s.heap[b]? = some cl := by rw [hh]; exact Old0.2.2
 show Rch p e below s₁ (entryFrame m #[(.int (0 : Int32)), (.ref qr), (.ref nr), (.int (0 : Int32))] 6) (FinW s (Q_rm_mk_again Z qr nr ra h0 n0) 0 0)
 refine Rch.cast (ef_rm_mk_again m qr nr ra) ?_
 have Z0f := Nat.le_refl h0.size
 have N0f := Fr.nil h0.size
 have OldF := Old0.up Z0
 show Rch p e below s₁ (mkF m 0 #[.val (.int 0), .val (.ref qr), .val (.ref nr), .val (.int 0), .unset, .unset] []) _
 refine w_iloadN (pc' := 1) X0 hx hby dm3_0 rfl rfl ?_
 refine w_ifYes (pc' := 8) X0 hx hby dm3_1 (XT.i0_eq_t (by decide)) (by decide) ?_
 refine w_aloadN (pc' := 9) X0 hx hby dm3_8 rfl rfl rfl ?_
 refine w_astore (pc' := 11) (l' := #[.val (.int 0), .val (.ref qr), .val (.ref nr), .val (.int 0), .val (.ref nr), .unset]) X0 hx hby dm3_9 rfl rfl rfl ?_
 refine w_iloadN (pc' := 12) X0 hx hby dm3_11 rfl rfl ?_
 refine w_ifNo (pc' := 15) X0 hx hby dm3_12 (XT.i0_ne_f (by decide)) rfl ?_
 have st660 := ldcAgain (s := s) (vm0 := s.vm) X0 hx hZ hown (wi hw 5 rfl) hLi0 (g := (mkF m 15 #[.val (.int 0), .val (.ref qr), .val (.ref nr), .val (.int 0), .val (.ref nr), .unset] [])) rfl (hb hby dm3_15)
 refine Rch.st (fun _ k => st660 _ k) ?_
 show Rch p e below s₁ (mkF m 17 #[.val (.int 0), .val (.ref qr), .val (.ref nr), .val (.int 0), .val (.ref nr), .unset] [(.ref ra)]) _
 exact Rch.retVW X0 hx hS0 (by rw [e0]; exact hk0) Bd.returns rfl (Or.inr (Or.inr (Or.inr (Or.inr ⟨rfl, rfl, rfl⟩)))) (hb hby dm3_17) (by rw [e0]; exact ⟨rfl, (own_Fr Z0 N0f), rfl, own_ib_mono (own_ib (s := s.setVm s.vm) hI X0.warmed) (by decide), own_lit (s := s) (vm := s.vm) hLi0 X0.warmed.wide⟩) (by decide) (by decide)

theorem djdk30m1_0 : decode jdk_30_method_1_code 0 = .ok (.aload_n 0, 1) := by decide +kernel
theorem djdk30m1_1 : decode jdk_30_method_1_code 1 = .ok (.invokespecial 1, 3) := by decide +kernel
theorem djdk30m1_4 : decode jdk_30_method_1_code 4 = .ok (.return_, 1) := by decide +kernel
theorem pn_java_lang_Record : plainName "java/lang/Record" = true := by first | (simp [plainName, overriddenIn]; done) | decide +kernel
theorem ef_rm_rec (m : MethodId) (io : Addr)  : entryFrame m #[(.ref io)] 1 = mkF m 0 #[.val (.ref io)] [] := by  first | (simp [entryFrame, mkF, argsToLocals, Value.category, maxLocals]; done) | rfl
def Q_rm_rec (Z : State) (io : Addr) (h0 : Heap) (n0 : Nat) (v : Option Value) (h : Heap) (L : List Loc) : Prop := (v = none) ∧ (Fr n0 L) ∧ (h = h0)
set_option maxRecDepth 65536 in
set_option maxHeartbeats 40000000 in
theorem rm_rec (l : Launch) (Z : State) (a0 : Array Value) (hw : ∀ d ∈ tables_1, d.before a0 Z = true) (ws : List Jvm.Cond) (io : Addr) (h0 : Heap) (n0 : Nat) (Z0 : n0 ≤ h0.size)  :
    MetFree l (⟨"java/lang/Record", "<init>", "()V"⟩ : MethodName) (head1 (Jvm.Cond.code (⟨"java/lang/Record", "<init>", "()V"⟩ : MethodName) jdk_30_method_1_code 1 none :: ws) ({ frames := 1, cells := 0, slots := 0, locals := 12 } : Room)) (fun a U => a = #[(.ref io)] ∧ Z.Warmed39 U.vm ∧ U.heap = h0) (fun _ _ _ _ _ => True) (fun _ U o U' => ∃ v L, o = .returned v ∧ Q_rm_rec Z io h0 n0 v U'.heap L ∧ FrameEnd U o U' L ({ frames := 1, cells := 0, slots := 0, locals := 12 } : Room).cells ({ frames := 1, cells := 0, slots := 0, locals := 12 } : Room).slots) := by
 refine MetFree.of_bodySF (plainFor_of_name pn_java_lang_Record) hisR ?_
 intro p e s m args below meth c s₁ Bd hml0 hP hK
 obtain ⟨rfl, hZ, hh⟩ := hP
 have hx := Bd.exec
 have hby := Bd.bytes
 have hml : c.maxLocals = 1 := hml0
 have hown : s.vm.findClass "java/lang/Record" = some m.cls := findClass_of_methodNamed Bd.named
 have hnm := (name_of_methodNamed Bd.named Bd.method).1
 have X0 : Stand p l e ({ frames := 1, cells := 0, slots := 0, locals := 12 } : Room) s m #[(.ref io)] below meth c s₁ [] 0 0 := Stand.of_body Bd
 have e0 : s₁.heap = h0 := by rw [← hh, Bd.state]; rfl
 have N0 := Fr.nil n0
 have K00 : Keep h0 h0 [] := Keep.refl _ _
 show Rch p e below s₁ (entryFrame m #[(.ref io)] 1) (FinP s (Q_rm_rec Z io h0 n0) 0 0)
 refine Rch.cast (ef_rm_rec m io) ?_
 show Rch p e below s₁ (mkF m 0 #[.val (.ref io)] []) _
 refine w_aloadN (pc' := 1) X0 hx hby djdk30m1_0 rfl rfl rfl ?_
 obtain ⟨T661, X661, e661, st661⟩ := initO X0 hx hZ hown (wi hw 24 rfl) (wi hw 25 rfl) (wi hw 26 rfl) e0 (g := (mkF m 1 #[.val (.ref io)] [(.ref io)])) rfl (by rw [hml]; rfl) rfl (hb hby djdk30m1_1) (by decide) (W := 0) (by show 2 * 0 + _ ≤ _; exact Nat.le_of_eq rfl) (by decide)
 refine Rch.st (fun _ k => st661 _ k) ?_
 show Rch p e below T661 (mkF m 4 #[.val (.ref io)] []) _
 exact Rch.ret0 X661 hx Bd.returns (hb hby djdk30m1_4) (by rw [e661]; exact ⟨rfl, N0, rfl⟩) (by decide) (by decide)

theorem dprog3m1_0 : decode prog_3_method_1_code 0 = .ok (.aload_n 0, 1) := by decide +kernel
theorem dprog3m1_1 : decode prog_3_method_1_code 1 = .ok (.invokespecial 1, 3) := by decide +kernel
theorem dprog3m1_4 : decode prog_3_method_1_code 4 = .ok (.aload_n 0, 1) := by decide +kernel
theorem dprog3m1_5 : decode prog_3_method_1_code 5 = .ok (.iload_n 1, 1) := by decide +kernel
theorem dprog3m1_6 : decode prog_3_method_1_code 6 = .ok (.putfield 7, 3) := by decide +kernel
theorem dprog3m1_9 : decode prog_3_method_1_code 9 = .ok (.aload_n 0, 1) := by decide +kernel
theorem dprog3m1_10 : decode prog_3_method_1_code 10 = .ok (.iload_n 2, 1) := by decide +kernel
theorem dprog3m1_11 : decode prog_3_method_1_code 11 = .ok (.putfield 13, 3) := by decide +kernel
theorem dprog3m1_14 : decode prog_3_method_1_code 14 = .ok (.aload_n 0, 1) := by decide +kernel
theorem dprog3m1_15 : decode prog_3_method_1_code 15 = .ok (.aload_n 3, 1) := by decide +kernel
theorem dprog3m1_16 : decode prog_3_method_1_code 16 = .ok (.putfield 16, 3) := by decide +kernel
theorem dprog3m1_19 : decode prog_3_method_1_code 19 = .ok (.return_, 1) := by decide +kernel
theorem pn_com_example_alcance_alcance_Identifiers : plainName "com/example/alcance/alcance/Identifiers" = true := by first | (simp [plainName, overriddenIn]; done) | decide +kernel
theorem ef_rm_id (m : MethodId) (io : Addr) (lb : Int32) (lq : Int32) (qs : Addr)  : entryFrame m #[(.ref io), (.int lb), (.int lq), (.ref qs)] 4 = mkF m 0 #[.val (.ref io), .val (.int lb), .val (.int lq), .val (.ref qs)] [] := by  first | (simp [entryFrame, mkF, argsToLocals, Value.category, maxLocals]; done) | rfl
def Q_rm_id (Z : State) (io : Addr) (lb : Int32) (lq : Int32) (qs : Addr) (h0 : Heap) (n0 : Nat) (v : Option Value) (h : Heap) (L : List Loc) : Prop := (v = none) ∧ (Fr n0 L) ∧ (Keep h0 h [io]) ∧ (Fld Z h io "com/example/alcance/alcance/Identifiers" "quote" "Ljava/lang/String;" (.ref qs))
theorem pd___V : parseMethodDescriptor "()V" = some ⟨[], none⟩ := by decide +kernel
set_option maxRecDepth 65536 in
set_option maxHeartbeats 40000000 in
theorem rm_id (l : Launch) (Z : State) (a0 : Array Value) (hw : ∀ d ∈ tables_1, d.before a0 Z = true) (ws : List Jvm.Cond) (io : Addr) (lb : Int32) (lq : Int32) (qs : Addr) (h0 : Heap) (n0 : Nat) (Z0 : n0 ≤ h0.size) (f0 : Exa Z h0 io "com/example/alcance/alcance/Identifiers") (f1 : Fld Z h0 io "com/example/alcance/alcance/Identifiers" "lowersBare" "Z" (.int (0 : Int32))) (f2 : Fld Z h0 io "com/example/alcance/alcance/Identifiers" "lowersQuoted" "Z" (.int (0 : Int32))) (f3 : Fld Z h0 io "com/example/alcance/alcance/Identifiers" "quote" "Ljava/lang/String;" .null) (ga : n0 ≤ io) (hlb : lb = 0 ∨ lb = 1) (hlq : lq = 0 ∨ lq = 1) :
    MetFree l (⟨"com/example/alcance/alcance/Identifiers", "<init>", "(ZZLjava/lang/String;)V"⟩ : MethodName) (head1 (Jvm.Cond.code (⟨"com/example/alcance/alcance/Identifiers", "<init>", "(ZZLjava/lang/String;)V"⟩ : MethodName) prog_3_method_1_code 4 none :: ws) ({ frames := 2, cells := 0, slots := 0, locals := 24 } : Room)) (fun a U => a = #[(.ref io), (.int lb), (.int lq), (.ref qs)] ∧ Z.Warmed39 U.vm ∧ U.heap = h0) (fun _ _ _ _ _ => True) (fun _ U o U' => ∃ v L, o = .returned v ∧ Q_rm_id Z io lb lq qs h0 n0 v U'.heap L ∧ FrameEnd U o U' L ({ frames := 2, cells := 0, slots := 0, locals := 24 } : Room).cells ({ frames := 2, cells := 0, slots := 0, locals := 24 } : Room).slots) := by
 refine MetFree.of_bodySF (plainFor_of_name pn_com_example_alcance_alcance_Identifiers) hisR ?_
 intro p e s m args below meth c s₁ Bd hml0 hP hK
 obtain ⟨rfl, hZ, hh⟩ := hP
 have hx := Bd.exec
 have hby := Bd.bytes
 have hml : c.maxLocals = 4 := hml0
 have hown : s.vm.findClass "com/example/alcance/alcance/Identifiers" = some m.cls := findClass_of_methodNamed Bd.named
 have hnm := (name_of_methodNamed Bd.named Bd.method).1
 have X0 : Stand p l e ({ frames := 2, cells := 0, slots := 0, locals := 24 } : Room) s m #[(.ref io), (.int lb), (.int lq), (.ref qs)] below meth c s₁ [] 0 0 := Stand.of_body Bd
 have e0 : s₁.heap = h0 := by rw [← hh, Bd.state]; rfl
 have N0 := Fr.nil n0
 have K00 : Keep h0 h0 [io] := Keep.refl _ _
 show Rch p e below s₁ (entryFrame m #[(.ref io), (.int lb), (.int lq), (.ref qs)] 4) (FinP s (Q_rm_id Z io lb lq qs h0 n0) 0 0)
 refine Rch.cast (ef_rm_id m io lb lq qs) ?_
 show Rch p e below s₁ (mkF m 0 #[.val (.ref io), .val (.int lb), .val (.int lq), .val (.ref qs)] []) _
 refine w_aloadN (pc' := 1) X0 hx hby dprog3m1_0 rfl rfl rfl ?_
 obtain ⟨_, _, ⟨T662, L662, k662, n662⟩, -, X662, ⟨Lc662, hQ662, l662, y662, z662⟩, st662⟩ := X0.specialBack hx (y := (⟨"java/lang/Record", "<init>", "()V"⟩ : MethodName)) rfl hown (mvT hZ (wi hw 19 rfl)) (mvT hZ (wi hw 20 rfl)) (mvT hZ (wi hw 23 rfl)) (by decide) (backOf (W := 0) (rm_rec l Z a0 hw [] io h0 n0 Z0 ) hZ (wi hw 23 rfl) (wi hw 22 rfl) (by decide) (by decide)) (g := (mkF m 1 #[.val (.ref io), .val (.int lb), .val (.int lq), .val (.ref qs)] [(.ref io)])) rfl (by rw [hml]; rfl) (Steps.refl _) (a := io) (argsL := []) (rest := []) (lenOf pd___V rfl) rfl (by show 2 * 0 + _ ≤ _; exact Nat.le_of_eq rfl) (hb hby dprog3m1_1) (fun _ _ => ⟨rfl, e0, (by decide : 0 + 0 ≤ _), (by decide : 0 + 0 ≤ _)⟩)
 dsimp only [Pt.U, Pt.locs, Pt.cells, Pt.slots] at X662 l662 y662 z662 st662 hQ662
 subst l662 y662 z662
 obtain ⟨rfl, NQ662, K662⟩ := hQ662
 have N663 := Fr.app N0 NQ662
 refine Rch.st (fun _ k => st662.trans k) ?_
 show Rch p e below T662 (mkF m 4 #[.val (.ref io), .val (.int lb), .val (.int lq), .val (.ref qs)] []) _
 refine w_aloadN (pc' := 5) X662 hx hby dprog3m1_4 rfl rfl rfl ?_
 refine w_iloadN (pc' := 6) X662 hx hby dprog3m1_5 rfl rfl ?_
 obtain ⟨T664, h664, X664, e664, W664, st664⟩ := putF X662 hx hZ hown (host := "") (Or.inl (wi hw 27 rfl)) Via.refl K662 f1 f0 (Or.inr ⟨(wi hw 28 rfl), rfl, hnm⟩) (wi hw 14 rfl) (ty := .boolean) (by decide) (by rcases hlb with rfl | rfl <;> rfl) (by rcases hlb with rfl | rfl <;> rfl) (g := (mkF m 6 #[.val (.ref io), .val (.int lb), .val (.int lq), .val (.ref qs)] [(.int lb), (.ref io)])) rfl rfl (hb hby dprog3m1_6)
 have N665 := Fr.snoc X664 N663 ga
 have f666 := f0.wr W664
 have f668 := f2.other W664 (Or.inr (slot_ne (t := .boolean) (t' := .boolean) (Or.inr (wi hw 30 rfl)) (Or.inr (wi hw 28 rfl)) (by decide) (by decide) (by decide)))
 have f669 := f3.other W664 (Or.inr (slot_ne (t := (.object "java/lang/String")) (t' := .boolean) (Or.inr (wi hw 32 rfl)) (Or.inr (wi hw 28 rfl)) (by decide) (by decide) (by decide)))
 have Kp671 : Keep h0 h664 [io] := K00.wr W664 (Or.inl (List.mem_of_getElem? (i := 0) rfl))
 refine Rch.st (fun _ k => st664 _ k) ?_
 show Rch p e below T664 (mkF m 9 #[.val (.ref io), .val (.int lb), .val (.int lq), .val (.ref qs)] []) _
 refine w_aloadN (pc' := 10) X664 hx hby dprog3m1_9 rfl rfl rfl ?_
 refine w_iloadN (pc' := 11) X664 hx hby dprog3m1_10 rfl rfl ?_
 obtain ⟨T672, h672, X672, e672, W672, st672⟩ := putF X664 hx hZ hown (host := "") (Or.inl (wi hw 29 rfl)) Via.refl e664 f668 f666 (Or.inr ⟨(wi hw 30 rfl), rfl, hnm⟩) (wi hw 14 rfl) (ty := .boolean) (by decide) (by rcases hlq with rfl | rfl <;> rfl) (by rcases hlq with rfl | rfl <;> rfl) (g := (mkF m 11 #[.val (.ref io), .val (.int lb), .val (.int lq), .val (.ref qs)] [(.int lq), (.ref io)])) rfl rfl (hb hby dprog3m1_11)
 have N673 := Fr.snoc X672 N665 ga
 have f674 := f666.wr W672
 have f677 := f669.other W672 (Or.inr (slot_ne (t := (.object "java/lang/String")) (t' := .boolean) (Or.inr (wi hw 32 rfl)) (Or.inr (wi hw 30 rfl)) (by decide) (by decide) (by decide)))
 have Kp679 : Keep h0 h672 [io] := Kp671.wr W672 (Or.inl (List.mem_of_getElem? (i := 0) rfl))
 refine Rch.st (fun _ k => st672 _ k) ?_
 show Rch p e below T672 (mkF m 14 #[.val (.ref io), .val (.int lb), .val (.int lq), .val (.ref qs)] []) _
 refine w_aloadN (pc' := 15) X672 hx hby dprog3m1_14 rfl rfl rfl ?_
 refine w_aloadN (pc' := 16) X672 hx hby dprog3m1_15 rfl rfl rfl ?_
 obtain ⟨T680, h680, X680, e680, W680, st680⟩ := putF X672 hx hZ hown (host := "") (Or.inl (wi hw 31 rfl)) Via.refl e672 f677 f674 (Or.inr ⟨(wi hw 32 rfl), rfl, hnm⟩) (wi hw 14 rfl) (ty := (.object "java/lang/String")) (by decide) rfl rfl (g := (mkF m 16 #[.val (.ref io), .val (.int lb), .val (.int lq), .val (.ref qs)] [(.ref qs), (.ref io)])) rfl rfl (hb hby dprog3m1_16)
 have N681 := Fr.snoc X680 N673 ga
 have f685 := f677.same W680
 have Kp687 : Keep h0 h680 [io] := Kp679.wr W680 (Or.inl (List.mem_of_getElem? (i := 0) rfl))
 refine Rch.st (fun _ k => st680 _ k) ?_
 show Rch p e below T680 (mkF m 19 #[.val (.ref io), .val (.int lb), .val (.int lq), .val (.ref qs)] []) _
 exact Rch.ret0 X680 hx Bd.returns (hb hby dprog3m1_19) (by rw [e680]; exact ⟨rfl, N681, Kp687, f685⟩) (by decide) (by decide)

theorem dprog3m5_0 : decode prog_3_method_5_code 0 = .ok (.new 61, 3) := by decide +kernel
theorem dprog3m5_3 : decode prog_3_method_5_code 3 = .ok (.dup, 1) := by decide +kernel
theorem dprog3m5_4 : decode prog_3_method_5_code 4 = .ok (.invokespecial 63, 3) := by decide +kernel
theorem dprog3m5_7 : decode prog_3_method_5_code 7 = .ok (.aload_n 0, 1) := by decide +kernel
theorem dprog3m5_8 : decode prog_3_method_5_code 8 = .ok (.getfield 16, 3) := by decide +kernel
theorem dprog3m5_11 : decode prog_3_method_5_code 11 = .ok (.invokevirtual 64, 3) := by decide +kernel
theorem dprog3m5_14 : decode prog_3_method_5_code 14 = .ok (.aload_n 1, 1) := by decide +kernel
theorem dprog3m5_15 : decode prog_3_method_5_code 15 = .ok (.invokevirtual 64, 3) := by decide +kernel
theorem dprog3m5_18 : decode prog_3_method_5_code 18 = .ok (.aload_n 0, 1) := by decide +kernel
theorem dprog3m5_19 : decode prog_3_method_5_code 19 = .ok (.getfield 16, 3) := by decide +kernel
theorem dprog3m5_22 : decode prog_3_method_5_code 22 = .ok (.invokevirtual 64, 3) := by decide +kernel
theorem dprog3m5_25 : decode prog_3_method_5_code 25 = .ok (.invokevirtual 68, 3) := by decide +kernel
theorem dprog3m5_28 : decode prog_3_method_5_code 28 = .ok (.areturn, 1) := by decide +kernel
theorem ef_rm_qu (m : MethodId) (G1 : Int32) (io : Addr) (qs : Addr) (qt : Addr) (kq : ClassId) (ql : Int32) (qv : List Value) (qd : Value) (ns : Addr) (nt : Addr) (kn : ClassId) (nl : Int32) (nv : List Value) (nd : Value)  : entryFrame m #[(.ref io), (.ref ns)] 2 = mkF m 0 #[.val (.ref io), .val (.ref ns)] [] := by  first | (simp [entryFrame, mkF, argsToLocals, Value.category, maxLocals]; done) | rfl
def Q_rm_qu (Z : State) (G1 : Int32) (io : Addr) (qs : Addr) (qt : Addr) (kq : ClassId) (ql : Int32) (qv : List Value) (qd : Value) (ns : Addr) (nt : Addr) (kn : ClassId) (nl : Int32) (nv : List Value) (nd : Value) (h0 : Heap) (n0 : Nat) (v : Option Value) (h : Heap) (L : List Loc) : Prop := ∃ (ra : Addr) (t : Addr) (kt : ClassId), (v = some (.ref ra)) ∧ (Fr n0 L) ∧ (Keep h0 h []) ∧ (h0.size ≤ ra) ∧ (h0.size ≤ t) ∧ (Exa Z h ra "java/lang/String") ∧ (Fld Z h ra "java/lang/String" "coder" "B" (.int (0 : Int32))) ∧ (Fld Z h ra "java/lang/String" "value" "[B" (.ref t)) ∧ (Arv Z h t kt .byte ((((0 : Int32) + ql) + nl) + ql) (own_cat qv qd ql nv nd nl) (.int (0 : Int32)))
theorem pd__Ljava_lang_String__Ljava_lang_StringBuilder_ : parseMethodDescriptor "(Ljava/lang/String;)Ljava/lang/StringBuilder;" = some ⟨[(.object "java/lang/String")], (some (.object "java/lang/StringBuilder"))⟩ := by decide +kernel
theorem pd___Ljava_lang_String_ : parseMethodDescriptor "()Ljava/lang/String;" = some ⟨[], (some (.object "java/lang/String"))⟩ := by decide +kernel
set_option maxRecDepth 65536 in
set_option maxHeartbeats 40000000 in
theorem rm_qu (l : Launch) (Z : State) (a0 : Array Value) (hw : ∀ d ∈ tables_1, d.before a0 Z = true) (ws : List Jvm.Cond) (G1 : Int32) (io : Addr) (qs : Addr) (qt : Addr) (kq : ClassId) (ql : Int32) (qv : List Value) (qd : Value) (ns : Addr) (nt : Addr) (kn : ClassId) (nl : Int32) (nv : List Value) (nd : Value) (h0 : Heap) (n0 : Nat) (Z0 : n0 ≤ h0.size) (O2 : Sta Z Z.heap "java/lang/String" "COMPACT_STRINGS" "Z" (.int G1)) (P5 : ¬ G1 = 0) (f2 : Fld Z h0 io "com/example/alcance/alcance/Identifiers" "quote" "Ljava/lang/String;" (.ref qs)) (f3 : Exa Z h0 qs "java/lang/String") (f4 : Fld Z h0 qs "java/lang/String" "coder" "B" (.int (0 : Int32))) (f5 : Fld Z h0 qs "java/lang/String" "value" "[B" (.ref qt)) (f6 : Arv Z h0 qt kq .byte ql qv qd) (f7 : Exa Z h0 ns "java/lang/String") (f8 : Fld Z h0 ns "java/lang/String" "coder" "B" (.int (0 : Int32))) (f9 : Fld Z h0 ns "java/lang/String" "value" "[B" (.ref nt)) (f10 : Arv Z h0 nt kn .byte nl nv nd) (hq0 : ¬ ql < 0) (hn0 : ¬ nl < 0) (hA : ((0 : Int32) + ql).toNatClampNeg = ql.toNatClampNeg) (hB : (((0 : Int32) + ql) + nl).toNatClampNeg = ql.toNatClampNeg + nl.toNatClampNeg) (hC : ((((0 : Int32) + ql) + nl) + ql).toNatClampNeg = ql.toNatClampNeg + nl.toNatClampNeg + ql.toNatClampNeg) (h8 : ql.toNatClampNeg + nl.toNatClampNeg + ql.toNatClampNeg ≤ 8) (hk1 : ¬ ((0 : Int32) + ql) < 0) (hk2 : ¬ (((0 : Int32) + ql) + nl) < 0) (hk3 : ¬ ((((0 : Int32) + ql) + nl) + ql) < 0) (hc1 : ¬ (0 : Int32) < (((0 : Int32) + ql) - (16 : Int32))) (hc2 : ¬ (0 : Int32) < ((((0 : Int32) + ql) + nl) - (16 : Int32))) (hc3 : ¬ (0 : Int32) < (((((0 : Int32) + ql) + nl) + ql) - (16 : Int32))) (hm : own_min32 (16 : Int32) ((((0 : Int32) + ql) + nl) + ql) = ((((0 : Int32) + ql) + nl) + ql)) (hne : ¬ ((((0 : Int32) + ql) + nl) + ql) = (16 : Int32)) (Old0 : OldL Z n0 h0) :
    MetFree l (⟨"com/example/alcance/alcance/Identifiers", "quoted", "(Ljava/lang/String;)Ljava/lang/String;"⟩ : MethodName) (head1 (Jvm.Cond.code (⟨"com/example/alcance/alcance/Identifiers", "quoted", "(Ljava/lang/String;)Ljava/lang/String;"⟩ : MethodName) prog_3_method_5_code 2 (some (.object "java/lang/String")) :: ws) ({ frames := 6, cells := 4, slots := 40, locals := 91 } : Room)) (fun a U => a = #[(.ref io), (.ref ns)] ∧ Z.Warmed39 U.vm ∧ U.heap = h0) (fun _ _ _ _ _ => True) (fun _ U o U' => ∃ v L, o = .returned v ∧ Q_rm_qu Z G1 io qs qt kq ql qv qd ns nt kn nl nv nd h0 n0 v U'.heap L ∧ FrameEnd U o U' L ({ frames := 6, cells := 4, slots := 40, locals := 91 } : Room).cells ({ frames := 6, cells := 4, slots := 40, locals := 91 } : Room).slots) := by
 refine MetFree.of_bodySF (plainFor_of_name pn_com_example_alcance_alcance_Identifiers) hisR ?_
 intro p e s m args below meth c s₁ Bd hml0 hP hK
 obtain ⟨rfl, hZ, hh⟩ := hP
 have hx := Bd.exec
 have hby := Bd.bytes
 have hml : c.maxLocals = 2 := hml0
 have hown : s.vm.findClass "com/example/alcance/alcance/Identifiers" = some m.cls := findClass_of_methodNamed Bd.named
 have hnm := (name_of_methodNamed Bd.named Bd.method).1
 have X0 : Stand p l e ({ frames := 6, cells := 4, slots := 40, locals := 91 } : Room) s m #[(.ref io), (.ref ns)] below meth c s₁ [] 0 0 := Stand.of_body Bd
 have e0 : s₁.heap = h0 := by rw [← hh, Bd.state]; rfl
 have N0 := Fr.nil n0
 have K00 : Keep h0 h0 [] := Keep.refl _ _
 show Rch p e below s₁ (entryFrame m #[(.ref io), (.ref ns)] 2) (FinP s (Q_rm_qu Z G1 io qs qt kq ql qv qd ns nt kn nl nv nd h0 n0) 4 40)
 refine Rch.cast (ef_rm_qu m G1 io qs qt kq ql qv qd ns nt kn nl nv nd) ?_
 show Rch p e below s₁ (mkF m 0 #[.val (.ref io), .val (.ref ns)] []) _
 obtain ⟨T688, h688, X688, e688, E688, A688, D688, -, st688⟩ := newO X0 hx hZ hown (wi hw 38 rfl) (wi hw 39 rfl) (wi hw 40 rfl) e0 (g := (mkF m 0 #[.val (.ref io), .val (.ref ns)] [])) rfl (hb hby dprog3m5_0) (by decide) (by decide)
 obtain ⟨a688, g688⟩ : ∃ z, z = h0.size := ⟨_, rfl⟩
 rw [← g688] at A688 D688 st688
 have ne689 : io ≠ a688 := by rw [g688]; exact Nat.ne_of_lt f2.lt
 have ne690 : ns ≠ a688 := by rw [g688]; exact Nat.ne_of_lt f7.lt
 have ne691 : nt ≠ a688 := by rw [g688]; exact Nat.ne_of_lt f10.lt
 have ne692 : qs ≠ a688 := by rw [g688]; exact Nat.ne_of_lt f3.lt
 have ne693 : qt ≠ a688 := by rw [g688]; exact Nat.ne_of_lt f6.lt
 have ge694 : n0 ≤ a688 := Nat.le_trans Z0 (Nat.le_of_eq g688.symm)
 have f696 := f2.ext E688
 have f697 := f3.ext E688
 have f698 := f4.ext E688
 have f699 := f5.ext E688
 have f700 := f6.ext E688
 have f701 := f7.ext E688
 have f702 := f8.ext E688
 have f703 := f9.ext E688
 have f704 := f10.ext E688
 have Old705 := Old0.ext E688
 have Z706 := Nat.le_trans Z0 E688.1
 have Kp707 : Keep h0 h688 [] := K00.ext E688
 have f708 : Fld Z h688 a688 "java/lang/AbstractStringBuilder" "value" "[B" .null := D688 (Or.inl (wi hw 53 rfl)) (ty := (.array .byte)) (by decide)
 have f709 : Fld Z h688 a688 "java/lang/AbstractStringBuilder" "coder" "B" (.int (0 : Int32)) := D688 (Or.inl (wi hw 55 rfl)) (ty := .byte) (by decide)
 have f710 : Fld Z h688 a688 "java/lang/AbstractStringBuilder" "count" "I" (.int (0 : Int32)) := D688 (Or.inl (wi hw 80 rfl)) (ty := .int) (by decide)
 refine Rch.st (fun _ k => st688 _ k) ?_
 show Rch p e below T688 (mkF m 3 #[.val (.ref io), .val (.ref ns)] [(.ref a688)]) _
 refine w_dup (pc' := 4) X688 hx hby dprog3m5_3 rfl rfl ?_
 obtain ⟨_, _, ⟨T711, L711, k711, n711⟩, -, X711, ⟨Lc711, hQ711, l711, y711, z711⟩, st711⟩ := X688.specialBack hx (y := (⟨"java/lang/StringBuilder", "<init>", "()V"⟩ : MethodName)) rfl hown (mvT hZ (wi hw 41 rfl)) (mvT hZ (wi hw 42 rfl)) (mvT hZ (wi hw 43 rfl)) (by decide) (backOf (W := 1) (rm_Bi l Z a0 hw [] G1 a688 h688 n0 Z706 (O2) (P5) A688 f708 f709 f710 (ge694) Old705) hZ (wi hw 43 rfl) (wi hw 40 rfl) (by decide) (by decide)) (g := (mkF m 4 #[.val (.ref io), .val (.ref ns)] [(.ref a688), (.ref a688)])) rfl (by rw [hml]; rfl) (Steps.refl _) (a := a688) (argsL := []) (rest := [(.ref a688)]) (lenOf pd___V rfl) rfl (by show 2 * 0 + _ ≤ _; exact Nat.le_of_eq rfl) (hb hby dprog3m5_4) (fun _ _ => ⟨rfl, e688, (by decide : 1 + 1 ≤ _), (by decide : 4 + 16 ≤ _)⟩)
 dsimp only [Pt.U, Pt.locs, Pt.cells, Pt.slots] at X711 l711 y711 z711 st711 hQ711
 subst l711 y711 z711
 obtain ⟨t_711, kt_711, rfl, NQ711, K711, pq711_0, fq711_0, fq711_1, fq711_2, fq711_3⟩ := hQ711
 have N712 := Fr.app N0 NQ711
 have ne713 := nlt A688.lt pq711_0
 have ne714 := nlt f696.lt pq711_0
 have ne715 := nlt f701.lt pq711_0
 have ne716 := nlt f704.lt pq711_0
 have ne717 := nlt f697.lt pq711_0
 have ne718 := nlt f700.lt pq711_0
 have ge719 : n0 ≤ t_711 := Nat.le_trans Z706 pq711_0
 have f720 := f696.keep K711 (ninS ne689 nin0)
 have f721 := f697.keep K711
 have f722 := f698.keep K711 (ninS ne692 nin0)
 have f723 := f699.keep K711 (ninS ne692 nin0)
 have f724 := f700.keep K711 (ninS ne693 nin0)
 have f725 := f701.keep K711
 have f726 := f702.keep K711 (ninS ne690 nin0)
 have f727 := f703.keep K711 (ninS ne690 nin0)
 have f728 := f704.keep K711 (ninS ne691 nin0)
 have f729 := A688.keep K711
 have Old730 := Old705.keep K711 (allS ge694 all0)
 have Kp731 : Keep h0 T711.heap [] := Kp707.trans K711 (allS (Or.inr (Nat.le_trans K00.1 (Nat.le_of_eq g688.symm))) all0)
 have Z732 := Nat.le_trans Z706 K711.1
 refine Rch.st (fun _ k => st711.trans k) ?_
 show Rch p e below T711 (mkF m 7 #[.val (.ref io), .val (.ref ns)] [(.ref a688)]) _
 refine w_aloadN (pc' := 8) X711 hx hby dprog3m5_7 rfl rfl rfl ?_
 obtain ⟨T733, X733, e733, st733⟩ := getF X711 hx hZ hown (host := "") (Or.inl (wi hw 31 rfl)) Via.refl (rfl : T711.heap = T711.heap) f720 (g := (mkF m 8 #[.val (.ref io), .val (.ref ns)] [(.ref io), (.ref a688)])) rfl rfl (hb hby dprog3m5_8)
 refine Rch.st (fun _ k => st733 _ k) ?_
 show Rch p e below T733 (mkF m 11 #[.val (.ref io), .val (.ref ns)] [(.ref qs), (.ref a688)]) _
 obtain ⟨cq734, kq734, q734a, q734b, q734c⟩ := isOf hZ e733 f729
 obtain ⟨_, _, ⟨T734, L734, k734, n734⟩, -, X734, ⟨Lc734, hQ734, l734, y734, z734⟩, st734⟩ := X733.virtualBack hx (y := (⟨"java/lang/StringBuilder", "append", "(Ljava/lang/String;)Ljava/lang/StringBuilder;"⟩ : MethodName)) (z := (⟨"java/lang/StringBuilder", "append", "(Ljava/lang/String;)Ljava/lang/StringBuilder;"⟩ : MethodName)) hown (mvT hZ (wi hw 56 rfl)) (mvT hZ (wi hw 57 rfl)) (notFace_of_selects (args := #[]) (mvT hZ (wi hw 59 rfl))) (mvT hZ (wi hw 59 rfl)) (mvT hZ (wi hw 58 rfl)) (by decide) (backOf (W := 0) (rm_Bap l Z a0 hw [] G1 a688 t_711 kt_711 0 ([] : List Value) qs qt kq ql qv qd T711.heap n0 Z732 (O2) (P5) f729 fq711_0 fq711_1 fq711_2 fq711_3 f721 f722 f723 f724 (by decide) (hq0) (by decide) (by simp only [own_take_len, List.length_append, List.length_nil]; omega) (hc1) (ge694) (ge719) (ne718) (ne692) (ne693) ((Ne.symm ne713)) (ne717) Old730) hZ (wi hw 60 rfl) (wi hw 40 rfl) (by decide) (by decide)) q734a q734c (g := (mkF m 11 #[.val (.ref io), .val (.ref ns)] [(.ref qs), (.ref a688)])) rfl (by rw [hml]; rfl) (Steps.refl _) (argsL := [(.ref qs)]) (rest := []) (lenOf pd__Ljava_lang_String__Ljava_lang_StringBuilder_ rfl) rfl (by show 2 * 0 + _ ≤ _; exact Nat.le_of_eq rfl) (hb hby dprog3m5_11) (fun _ _ => ⟨rfl, e733, (by decide : 2 + 0 ≤ _), (by decide : 20 + 0 ≤ _)⟩)
 dsimp only [Pt.U, Pt.locs, Pt.cells, Pt.slots] at X734 l734 y734 z734 st734 hQ734
 subst l734 y734 z734
 obtain ⟨rfl, NQ734, K734, fq734_0, fq734_1, fq734_2, fq734_3⟩ := hQ734
 have N735 := Fr.app N712 NQ734
 have f736 := f720.keep K734 (ninS ne689 (ninS ne714 nin0))
 have f737 := f721.keep K734
 have f738 := f722.keep K734 (ninS ne692 (ninS ne717 nin0))
 have f739 := f723.keep K734 (ninS ne692 (ninS ne717 nin0))
 have f740 := f724.keep K734 (ninS ne693 (ninS ne718 nin0))
 have f741 := f725.keep K734
 have f742 := f726.keep K734 (ninS ne690 (ninS ne715 nin0))
 have f743 := f727.keep K734 (ninS ne690 (ninS ne715 nin0))
 have f744 := f728.keep K734 (ninS ne691 (ninS ne716 nin0))
 have f745 := f729.keep K734
 have Old746 := Old730.keep K734 (allS ge694 (allS ge719 all0))
 have Kp747 : Keep h0 T734.heap [] := Kp731.trans K734 (allS (Or.inr (Nat.le_trans K00.1 (Nat.le_of_eq g688.symm))) (allS (Or.inr (Nat.le_trans Kp707.1 pq711_0)) all0))
 have Z748 := Nat.le_trans Z732 K734.1
 refine Rch.st (fun _ k => st734.trans k) ?_
 show Rch p e below T734 (mkF m 14 #[.val (.ref io), .val (.ref ns)] [(.ref a688)]) _
 refine w_aloadN (pc' := 15) X734 hx hby dprog3m5_14 rfl rfl rfl ?_
 obtain ⟨cq749, kq749, q749a, q749b, q749c⟩ := isOf hZ (rfl : T734.heap = T734.heap) f745
 obtain ⟨_, _, ⟨T749, L749, k749, n749⟩, -, X749, ⟨Lc749, hQ749, l749, y749, z749⟩, st749⟩ := X734.virtualBack hx (y := (⟨"java/lang/StringBuilder", "append", "(Ljava/lang/String;)Ljava/lang/StringBuilder;"⟩ : MethodName)) (z := (⟨"java/lang/StringBuilder", "append", "(Ljava/lang/String;)Ljava/lang/StringBuilder;"⟩ : MethodName)) hown (mvT hZ (wi hw 56 rfl)) (mvT hZ (wi hw 57 rfl)) (notFace_of_selects (args := #[]) (mvT hZ (wi hw 59 rfl))) (mvT hZ (wi hw 59 rfl)) (mvT hZ (wi hw 58 rfl)) (by decide) (backOf (W := 0) (rm_Bap l Z a0 hw [] G1 a688 t_711 kt_711 ((0 : Int32) + ql) (([] : List Value) ++ own_take qv qd ql.toNatClampNeg) ns nt kn nl nv nd T734.heap n0 Z748 (O2) (P5) f745 fq734_0 fq734_1 fq734_2 fq734_3 f741 f742 f743 f744 (hk1) (hn0) (by simp only [own_take_len, List.length_append, List.length_nil]; omega) (by simp only [own_take_len, List.length_append, List.length_nil]; omega) (hc2) (ge694) (ge719) (ne716) (ne690) (ne691) ((Ne.symm ne713)) (ne715) Old746) hZ (wi hw 60 rfl) (wi hw 40 rfl) (by decide) (by decide)) q749a q749c (g := (mkF m 15 #[.val (.ref io), .val (.ref ns)] [(.ref ns), (.ref a688)])) rfl (by rw [hml]; rfl) (Steps.refl _) (argsL := [(.ref ns)]) (rest := []) (lenOf pd__Ljava_lang_String__Ljava_lang_StringBuilder_ rfl) rfl (by show 2 * 0 + _ ≤ _; exact Nat.le_of_eq rfl) (hb hby dprog3m5_15) (fun _ _ => ⟨rfl, (rfl : T734.heap = T734.heap), (by decide : 2 + 0 ≤ _), (by decide : 20 + 0 ≤ _)⟩)
 dsimp only [Pt.U, Pt.locs, Pt.cells, Pt.slots] at X749 l749 y749 z749 st749 hQ749
 subst l749 y749 z749
 obtain ⟨rfl, NQ749, K749, fq749_0, fq749_1, fq749_2, fq749_3⟩ := hQ749
 have N750 := Fr.app N735 NQ749
 have f751 := f736.keep K749 (ninS ne689 (ninS ne714 nin0))
 have f752 := f737.keep K749
 have f753 := f738.keep K749 (ninS ne692 (ninS ne717 nin0))
 have f754 := f739.keep K749 (ninS ne692 (ninS ne717 nin0))
 have f755 := f740.keep K749 (ninS ne693 (ninS ne718 nin0))
 have f760 := f745.keep K749
 have Old761 := Old746.keep K749 (allS ge694 (allS ge719 all0))
 have Kp762 : Keep h0 T749.heap [] := Kp747.trans K749 (allS (Or.inr (Nat.le_trans K00.1 (Nat.le_of_eq g688.symm))) (allS (Or.inr (Nat.le_trans Kp707.1 pq711_0)) all0))
 have Z763 := Nat.le_trans Z748 K749.1
 refine Rch.st (fun _ k => st749.trans k) ?_
 show Rch p e below T749 (mkF m 18 #[.val (.ref io), .val (.ref ns)] [(.ref a688)]) _
 refine w_aloadN (pc' := 19) X749 hx hby dprog3m5_18 rfl rfl rfl ?_
 obtain ⟨T764, X764, e764, st764⟩ := getF X749 hx hZ hown (host := "") (Or.inl (wi hw 31 rfl)) Via.refl (rfl : T749.heap = T749.heap) f751 (g := (mkF m 19 #[.val (.ref io), .val (.ref ns)] [(.ref io), (.ref a688)])) rfl rfl (hb hby dprog3m5_19)
 refine Rch.st (fun _ k => st764 _ k) ?_
 show Rch p e below T764 (mkF m 22 #[.val (.ref io), .val (.ref ns)] [(.ref qs), (.ref a688)]) _
 obtain ⟨cq765, kq765, q765a, q765b, q765c⟩ := isOf hZ e764 f760
 obtain ⟨_, _, ⟨T765, L765, k765, n765⟩, -, X765, ⟨Lc765, hQ765, l765, y765, z765⟩, st765⟩ := X764.virtualBack hx (y := (⟨"java/lang/StringBuilder", "append", "(Ljava/lang/String;)Ljava/lang/StringBuilder;"⟩ : MethodName)) (z := (⟨"java/lang/StringBuilder", "append", "(Ljava/lang/String;)Ljava/lang/StringBuilder;"⟩ : MethodName)) hown (mvT hZ (wi hw 56 rfl)) (mvT hZ (wi hw 57 rfl)) (notFace_of_selects (args := #[]) (mvT hZ (wi hw 59 rfl))) (mvT hZ (wi hw 59 rfl)) (mvT hZ (wi hw 58 rfl)) (by decide) (backOf (W := 0) (rm_Bap l Z a0 hw [] G1 a688 t_711 kt_711 (((0 : Int32) + ql) + nl) ((([] : List Value) ++ own_take qv qd ql.toNatClampNeg) ++ own_take nv nd nl.toNatClampNeg) qs qt kq ql qv qd T749.heap n0 Z763 (O2) (P5) f760 fq749_0 fq749_1 fq749_2 fq749_3 f752 f753 f754 f755 (hk2) (hq0) (by simp only [own_take_len, List.length_append, List.length_nil]; omega) (by simp only [own_take_len, List.length_append, List.length_nil]; omega) (hc3) (ge694) (ge719) (ne718) (ne692) (ne693) ((Ne.symm ne713)) (ne717) Old761) hZ (wi hw 60 rfl) (wi hw 40 rfl) (by decide) (by decide)) q765a q765c (g := (mkF m 22 #[.val (.ref io), .val (.ref ns)] [(.ref qs), (.ref a688)])) rfl (by rw [hml]; rfl) (Steps.refl _) (argsL := [(.ref qs)]) (rest := []) (lenOf pd__Ljava_lang_String__Ljava_lang_StringBuilder_ rfl) rfl (by show 2 * 0 + _ ≤ _; exact Nat.le_of_eq rfl) (hb hby dprog3m5_22) (fun _ _ => ⟨rfl, e764, (by decide : 2 + 0 ≤ _), (by decide : 20 + 0 ≤ _)⟩)
 dsimp only [Pt.U, Pt.locs, Pt.cells, Pt.slots] at X765 l765 y765 z765 st765 hQ765
 subst l765 y765 z765
 obtain ⟨rfl, NQ765, K765, fq765_0, fq765_1, fq765_2, fq765_3⟩ := hQ765
 have N766 := Fr.app N750 NQ765
 have f776 := f760.keep K765
 have Old777 := Old761.keep K765 (allS ge694 (allS ge719 all0))
 have Kp778 : Keep h0 T765.heap [] := Kp762.trans K765 (allS (Or.inr (Nat.le_trans K00.1 (Nat.le_of_eq g688.symm))) (allS (Or.inr (Nat.le_trans Kp707.1 pq711_0)) all0))
 have Z779 := Nat.le_trans Z763 K765.1
 refine Rch.st (fun _ k => st765.trans k) ?_
 show Rch p e below T765 (mkF m 25 #[.val (.ref io), .val (.ref ns)] [(.ref a688)]) _
 obtain ⟨cq780, kq780, q780a, q780b, q780c⟩ := isOf hZ (rfl : T765.heap = T765.heap) f776
 obtain ⟨_, _, ⟨T780, L780, k780, n780⟩, -, X780, ⟨Lc780, hQ780, l780, y780, z780⟩, st780⟩ := X765.virtualBack hx (y := (⟨"java/lang/StringBuilder", "toString", "()Ljava/lang/String;"⟩ : MethodName)) (z := (⟨"java/lang/StringBuilder", "toString", "()Ljava/lang/String;"⟩ : MethodName)) hown (mvT hZ (wi hw 106 rfl)) (mvT hZ (wi hw 107 rfl)) (notFace_of_selects (args := #[]) (mvT hZ (wi hw 109 rfl))) (mvT hZ (wi hw 109 rfl)) (mvT hZ (wi hw 108 rfl)) (by decide) (backOf (W := 0) (rm_ts l Z a0 hw [] G1 a688 t_711 kt_711 ((((0 : Int32) + ql) + nl) + ql) (((([] : List Value) ++ own_take qv qd ql.toNatClampNeg) ++ own_take nv nd nl.toNatClampNeg) ++ own_take qv qd ql.toNatClampNeg) T765.heap n0 Z779 (O2) (P5) f776 fq765_0 fq765_1 fq765_2 fq765_3 (hk3) (by omega) (hm) (by rw [own_16]; omega) (hne) Old777) hZ (wi hw 110 rfl) (wi hw 40 rfl) (by decide) (by decide)) q780a q780c (g := (mkF m 25 #[.val (.ref io), .val (.ref ns)] [(.ref a688)])) rfl (by rw [hml]; rfl) (Steps.refl _) (argsL := []) (rest := []) (lenOf pd___Ljava_lang_String_ rfl) rfl (by show 2 * 0 + _ ≤ _; exact Nat.le_of_eq rfl) (hb hby dprog3m5_25) (fun _ _ => ⟨rfl, (rfl : T765.heap = T765.heap), (by decide : 2 + 2 ≤ _), (by decide : 20 + 20 ≤ _)⟩)
 dsimp only [Pt.U, Pt.locs, Pt.cells, Pt.slots] at X780 l780 y780 z780 st780 hQ780
 subst l780 y780 z780
 obtain ⟨ra_780, t_780, kt_780, rfl, NQ780, K780, pq780_0, pq780_1, fq780_0, fq780_1, fq780_2, fq780_3⟩ := hQ780
 have N781 := Fr.app N766 NQ780
 have Kp813 : Keep h0 T780.heap [] := Kp778.trans K780 all0
 refine Rch.st (fun _ k => st780.trans k) ?_
 show Rch p e below T780 (mkF m 28 #[.val (.ref io), .val (.ref ns)] [(.ref ra_780)]) _
 have f815 : Arv Z T780.heap t_780 kt_780 .byte ((((0 : Int32) + ql) + nl) + ql) (own_cat qv qd ql nv nd nl) (.int (0 : Int32)) := by have z := fq780_3; rw [show own_take (((([] : List Value) ++ own_take qv qd ql.toNatClampNeg) ++ own_take nv nd nl.toNatClampNeg) ++ own_take qv qd ql.toNatClampNeg) (Value.int (0 : Int32)) ((((0 : Int32) + ql) + nl) + ql).toNatClampNeg = (own_cat qv qd ql nv nd nl) from by rw [show ((((0 : Int32) + ql) + nl) + ql).toNatClampNeg = ((own_cat qv qd ql nv nd nl)).length from by rw [own_cat_len]; exact hC]; exact own_take_all _ _] at z; exact z
 exact Rch.retV X780 hx Bd.returns rfl (Or.inr (Or.inr (Or.inr (Or.inr ⟨rfl, rfl, rfl⟩)))) (hb hby dprog3m5_28) (by rw [(rfl : T780.heap = T780.heap)]; exact ⟨ra_780, t_780, kt_780, rfl, N781, Kp813, (Nat.le_trans Kp778.1 pq780_0), (Nat.le_trans Kp778.1 pq780_1), fq780_0, fq780_1, fq780_2, f815⟩) (by decide) (by decide)

theorem dm4_0 : decode method_4_code 0 = .ok (.iload_n 0, 1) := by decide +kernel
theorem dm4_1 : decode method_4_code 1 = .ok (.iload_n 1, 1) := by decide +kernel
theorem dm4_2 : decode method_4_code 2 = .ok (.if_icmp .ge 7, 3) := by decide +kernel
theorem dm4_5 : decode method_4_code 5 = .ok (.aload_n 3, 1) := by decide +kernel
theorem dm4_6 : decode method_4_code 6 = .ok (.iload_n 0, 1) := by decide +kernel
theorem dm4_7 : decode method_4_code 7 = .ok (.caload, 1) := by decide +kernel
theorem dm4_8 : decode method_4_code 8 = .ok (.ireturn, 1) := by decide +kernel
theorem dm4_9 : decode method_4_code 9 = .ok (.iload_n 0, 1) := by decide +kernel
theorem dm4_10 : decode method_4_code 10 = .ok (.iload_n 1, 1) := by decide +kernel
theorem dm4_11 : decode method_4_code 11 = .ok (.isub, 1) := by decide +kernel
theorem dm4_12 : decode method_4_code 12 = .ok (.istore 5, 2) := by decide +kernel
theorem dm4_14 : decode method_4_code 14 = .ok (.iload 5, 2) := by decide +kernel
theorem dm4_16 : decode method_4_code 16 = .ok (.iload_n 2, 1) := by decide +kernel
theorem dm4_17 : decode method_4_code 17 = .ok (.if_icmp .ge 9, 3) := by decide +kernel
theorem dm4_20 : decode method_4_code 20 = .ok (.aload 4, 2) := by decide +kernel
theorem dm4_22 : decode method_4_code 22 = .ok (.iload 5, 2) := by decide +kernel
theorem dm4_24 : decode method_4_code 24 = .ok (.caload, 1) := by decide +kernel
theorem dm4_25 : decode method_4_code 25 = .ok (.ireturn, 1) := by decide +kernel
theorem dm4_26 : decode method_4_code 26 = .ok (.iload 5, 2) := by decide +kernel
theorem dm4_28 : decode method_4_code 28 = .ok (.iload_n 2, 1) := by decide +kernel
theorem dm4_29 : decode method_4_code 29 = .ok (.isub, 1) := by decide +kernel
theorem dm4_30 : decode method_4_code 30 = .ok (.istore 6, 2) := by decide +kernel
theorem dm4_32 : decode method_4_code 32 = .ok (.aload_n 3, 1) := by decide +kernel
theorem dm4_33 : decode method_4_code 33 = .ok (.iload 6, 2) := by decide +kernel
theorem dm4_35 : decode method_4_code 35 = .ok (.caload, 1) := by decide +kernel
theorem dm4_36 : decode method_4_code 36 = .ok (.ireturn, 1) := by decide +kernel
theorem ef_rm_ex_A (m : MethodId) (ii : Int32) (ql : Int32) (nl : Int32) (qr : Addr) (kq : ClassId) (qv : List Value) (qd : Value) (nr : Addr) (kn : ClassId) (nv : List Value) (nd : Value) (cx : Int32)  : entryFrame m #[(.int ii), (.int ql), (.int nl), (.ref qr), (.ref nr)] 7 = mkF m 0 #[.val (.int ii), .val (.int ql), .val (.int nl), .val (.ref qr), .val (.ref nr), .unset, .unset] [] := by  first | (simp [entryFrame, mkF, argsToLocals, Value.category, maxLocals]; done) | rfl
def Q_rm_ex_A (Z : State) (ii : Int32) (ql : Int32) (nl : Int32) (qr : Addr) (kq : ClassId) (qv : List Value) (qd : Value) (nr : Addr) (kn : ClassId) (nv : List Value) (nd : Value) (cx : Int32) (h0 : Heap) (n0 : Nat) (v : Option Value) (h : Heap) (L : List Loc) : Prop := (v = some (.int cx)) ∧ (Fr n0 L) ∧ (h = h0)
set_option maxRecDepth 65536 in
set_option maxHeartbeats 40000000 in
theorem rm_ex_A (l : Launch) (Z : State) (a0 : Array Value) (hw : ∀ d ∈ tables_1, d.before a0 Z = true) (ws : List Jvm.Cond) (ii : Int32) (ql : Int32) (nl : Int32) (qr : Addr) (kq : ClassId) (qv : List Value) (qd : Value) (nr : Addr) (kn : ClassId) (nv : List Value) (nd : Value) (cx : Int32) (h0 : Heap) (n0 : Nat) (Z0 : n0 ≤ h0.size) (f0 : Arv Z h0 qr kq .char (2 : Int32) qv qd) (f1 : Arv Z h0 nr kn .char (3 : Int32) nv nd) (p1 : ii < ql) (p2 : ¬ ii < 0 ∧ ii < 2) (p3 : qv.getD ii.toNatClampNeg qd = .int cx) (p5 : nar .char cx = cx) :
    MetFree l (⟨"com/example/alcance/alcance/IdentifiersQuotedPinLaw", "expectedAt", "(III[C[C)C"⟩ : MethodName) (head1 (Jvm.Cond.code (⟨"com/example/alcance/alcance/IdentifiersQuotedPinLaw", "expectedAt", "(III[C[C)C"⟩ : MethodName) method_4_code 7 (some .char) :: ws) ({ frames := 0, cells := 0, slots := 0, locals := 0 } : Room)) (fun a U => a = #[(.int ii), (.int ql), (.int nl), (.ref qr), (.ref nr)] ∧ Z.Warmed39 U.vm ∧ U.heap = h0) (fun _ _ _ _ _ => True) (fun _ U o U' => ∃ v L, o = .returned v ∧ Q_rm_ex_A Z ii ql nl qr kq qv qd nr kn nv nd cx h0 n0 v U'.heap L ∧ FrameEnd U o U' L ({ frames := 0, cells := 0, slots := 0, locals := 0 } : Room).cells ({ frames := 0, cells := 0, slots := 0, locals := 0 } : Room).slots) := by
 refine MetFree.of_bodySF (plainFor_of_name pn_com_example_alcance_alcance_IdentifiersQuotedPinLaw) hisR ?_
 intro p e s m args below meth c s₁ Bd hml0 hP hK
 obtain ⟨rfl, hZ, hh⟩ := hP
 have hx := Bd.exec
 have hby := Bd.bytes
 have hml : c.maxLocals = 7 := hml0
 have hown : s.vm.findClass "com/example/alcance/alcance/IdentifiersQuotedPinLaw" = some m.cls := findClass_of_methodNamed Bd.named
 have hnm := (name_of_methodNamed Bd.named Bd.method).1
 have X0 : Stand p l e ({ frames := 0, cells := 0, slots := 0, locals := 0 } : Room) s m #[(.int ii), (.int ql), (.int nl), (.ref qr), (.ref nr)] below meth c s₁ [] 0 0 := Stand.of_body Bd
 have e0 : s₁.heap = h0 := by rw [← hh, Bd.state]; rfl
 have N0 := Fr.nil n0
 have K00 : Keep h0 h0 [] := Keep.refl _ _
 show Rch p e below s₁ (entryFrame m #[(.int ii), (.int ql), (.int nl), (.ref qr), (.ref nr)] 7) (FinP s (Q_rm_ex_A Z ii ql nl qr kq qv qd nr kn nv nd cx h0 n0) 0 0)
 refine Rch.cast (ef_rm_ex_A m ii ql nl qr kq qv qd nr kn nv nd cx) ?_
 show Rch p e below s₁ (mkF m 0 #[.val (.int ii), .val (.int ql), .val (.int nl), .val (.ref qr), .val (.ref nr), .unset, .unset] []) _
 refine w_iloadN (pc' := 1) X0 hx hby dm4_0 rfl rfl ?_
 refine w_iloadN (pc' := 2) X0 hx hby dm4_1 rfl rfl ?_
 refine w_icmpNo (pc' := 5) X0 hx hby dm4_2 (XT.ii_ge_f (p1)) rfl ?_
 refine w_aloadN (pc' := 6) X0 hx hby dm4_5 rfl rfl rfl ?_
 refine w_iloadN (pc' := 7) X0 hx hby dm4_6 rfl rfl ?_
 refine Rch.st (fun _ k => own_ldC X0 hx hZ e0 f0 (j := ii) (p2) (p3) rfl rfl (hb hby dm4_7) k) ?_
 show Rch p e below s₁ (mkF m 8 #[.val (.int ii), .val (.int ql), .val (.int nl), .val (.ref qr), .val (.ref nr), .unset, .unset] [(.int cx)]) _
 exact Rch.retV X0 hx Bd.returns (by show Value.int (nar .char cx) = _; rw [p5]) (Or.inl ⟨rfl, by simp, _, rfl⟩) (hb hby dm4_8) (by rw [e0]; exact ⟨rfl, N0, rfl⟩) (by decide) (by decide)

theorem ef_rm_ex_B (m : MethodId) (ii : Int32) (ql : Int32) (nl : Int32) (qr : Addr) (kq : ClassId) (qv : List Value) (qd : Value) (nr : Addr) (kn : ClassId) (nv : List Value) (nd : Value) (cx : Int32)  : entryFrame m #[(.int ii), (.int ql), (.int nl), (.ref qr), (.ref nr)] 7 = mkF m 0 #[.val (.int ii), .val (.int ql), .val (.int nl), .val (.ref qr), .val (.ref nr), .unset, .unset] [] := by  first | (simp [entryFrame, mkF, argsToLocals, Value.category, maxLocals]; done) | rfl
def Q_rm_ex_B (Z : State) (ii : Int32) (ql : Int32) (nl : Int32) (qr : Addr) (kq : ClassId) (qv : List Value) (qd : Value) (nr : Addr) (kn : ClassId) (nv : List Value) (nd : Value) (cx : Int32) (h0 : Heap) (n0 : Nat) (v : Option Value) (h : Heap) (L : List Loc) : Prop := (v = some (.int cx)) ∧ (Fr n0 L) ∧ (h = h0)
set_option maxRecDepth 65536 in
set_option maxHeartbeats 40000000 in
theorem rm_ex_B (l : Launch) (Z : State) (a0 : Array Value) (hw : ∀ d ∈ tables_1, d.before a0 Z = true) (ws : List Jvm.Cond) (ii : Int32) (ql : Int32) (nl : Int32) (qr : Addr) (kq : ClassId) (qv : List Value) (qd : Value) (nr : Addr) (kn : ClassId) (nv : List Value) (nd : Value) (cx : Int32) (h0 : Heap) (n0 : Nat) (Z0 : n0 ≤ h0.size) (f0 : Arv Z h0 qr kq .char (2 : Int32) qv qd) (f1 : Arv Z h0 nr kn .char (3 : Int32) nv nd) (p1 : ¬ ii < ql) (p4 : (ii - ql) < nl) (p2 : ¬ (ii - ql) < 0 ∧ (ii - ql) < 3) (p3 : nv.getD (ii - ql).toNatClampNeg nd = .int cx) (p5 : nar .char cx = cx) :
    MetFree l (⟨"com/example/alcance/alcance/IdentifiersQuotedPinLaw", "expectedAt", "(III[C[C)C"⟩ : MethodName) (head1 (Jvm.Cond.code (⟨"com/example/alcance/alcance/IdentifiersQuotedPinLaw", "expectedAt", "(III[C[C)C"⟩ : MethodName) method_4_code 7 (some .char) :: ws) ({ frames := 0, cells := 0, slots := 0, locals := 0 } : Room)) (fun a U => a = #[(.int ii), (.int ql), (.int nl), (.ref qr), (.ref nr)] ∧ Z.Warmed39 U.vm ∧ U.heap = h0) (fun _ _ _ _ _ => True) (fun _ U o U' => ∃ v L, o = .returned v ∧ Q_rm_ex_B Z ii ql nl qr kq qv qd nr kn nv nd cx h0 n0 v U'.heap L ∧ FrameEnd U o U' L ({ frames := 0, cells := 0, slots := 0, locals := 0 } : Room).cells ({ frames := 0, cells := 0, slots := 0, locals := 0 } : Room).slots) := by
 refine MetFree.of_bodySF (plainFor_of_name pn_com_example_alcance_alcance_IdentifiersQuotedPinLaw) hisR ?_
 intro p e s m args below meth c s₁ Bd hml0 hP hK
 obtain ⟨rfl, hZ, hh⟩ := hP
 have hx := Bd.exec
 have hby := Bd.bytes
 have hml : c.maxLocals = 7 := hml0
 have hown : s.vm.findClass "com/example/alcance/alcance/IdentifiersQuotedPinLaw" = some m.cls := findClass_of_methodNamed Bd.named
 have hnm := (name_of_methodNamed Bd.named Bd.method).1
 have X0 : Stand p l e ({ frames := 0, cells := 0, slots := 0, locals := 0 } : Room) s m #[(.int ii), (.int ql), (.int nl), (.ref qr), (.ref nr)] below meth c s₁ [] 0 0 := Stand.of_body Bd
 have e0 : s₁.heap = h0 := by rw [← hh, Bd.state]; rfl
 have N0 := Fr.nil n0
 have K00 : Keep h0 h0 [] := Keep.refl _ _
 show Rch p e below s₁ (entryFrame m #[(.int ii), (.int ql), (.int nl), (.ref qr), (.ref nr)] 7) (FinP s (Q_rm_ex_B Z ii ql nl qr kq qv qd nr kn nv nd cx h0 n0) 0 0)
 refine Rch.cast (ef_rm_ex_B m ii ql nl qr kq qv qd nr kn nv nd cx) ?_
 show Rch p e below s₁ (mkF m 0 #[.val (.int ii), .val (.int ql), .val (.int nl), .val (.ref qr), .val (.ref nr), .unset, .unset] []) _
 refine w_iloadN (pc' := 1) X0 hx hby dm4_0 rfl rfl ?_
 refine w_iloadN (pc' := 2) X0 hx hby dm4_1 rfl rfl ?_
 refine w_icmpYes (pc' := 9) X0 hx hby dm4_2 (XT.ii_ge_t (p1)) (by decide) ?_
 refine w_iloadN (pc' := 10) X0 hx hby dm4_9 rfl rfl ?_
 refine w_iloadN (pc' := 11) X0 hx hby dm4_10 rfl rfl ?_
 refine w_isub (pc' := 12) X0 hx hby dm4_11 rfl ?_
 refine w_istore (pc' := 14) (l' := #[.val (.int ii), .val (.int ql), .val (.int nl), .val (.ref qr), .val (.ref nr), .val (.int (ii - ql)), .unset]) X0 hx hby dm4_12 rfl rfl ?_
 refine w_iload (pc' := 16) X0 hx hby dm4_14 rfl rfl ?_
 refine w_iloadN (pc' := 17) X0 hx hby dm4_16 rfl rfl ?_
 refine w_icmpNo (pc' := 20) X0 hx hby dm4_17 (XT.ii_ge_f (p4)) rfl ?_
 refine w_aload (pc' := 22) X0 hx hby dm4_20 rfl rfl rfl ?_
 refine w_iload (pc' := 24) X0 hx hby dm4_22 rfl rfl ?_
 refine Rch.st (fun _ k => own_ldC X0 hx hZ e0 f1 (j := (ii - ql)) (p2) (p3) rfl rfl (hb hby dm4_24) k) ?_
 show Rch p e below s₁ (mkF m 25 #[.val (.int ii), .val (.int ql), .val (.int nl), .val (.ref qr), .val (.ref nr), .val (.int (ii - ql)), .unset] [(.int cx)]) _
 exact Rch.retV X0 hx Bd.returns (by show Value.int (nar .char cx) = _; rw [p5]) (Or.inl ⟨rfl, by simp, _, rfl⟩) (hb hby dm4_25) (by rw [e0]; exact ⟨rfl, N0, rfl⟩) (by decide) (by decide)

theorem ef_rm_ex_C (m : MethodId) (ii : Int32) (ql : Int32) (nl : Int32) (qr : Addr) (kq : ClassId) (qv : List Value) (qd : Value) (nr : Addr) (kn : ClassId) (nv : List Value) (nd : Value) (cx : Int32)  : entryFrame m #[(.int ii), (.int ql), (.int nl), (.ref qr), (.ref nr)] 7 = mkF m 0 #[.val (.int ii), .val (.int ql), .val (.int nl), .val (.ref qr), .val (.ref nr), .unset, .unset] [] := by  first | (simp [entryFrame, mkF, argsToLocals, Value.category, maxLocals]; done) | rfl
def Q_rm_ex_C (Z : State) (ii : Int32) (ql : Int32) (nl : Int32) (qr : Addr) (kq : ClassId) (qv : List Value) (qd : Value) (nr : Addr) (kn : ClassId) (nv : List Value) (nd : Value) (cx : Int32) (h0 : Heap) (n0 : Nat) (v : Option Value) (h : Heap) (L : List Loc) : Prop := (v = some (.int cx)) ∧ (Fr n0 L) ∧ (h = h0)
set_option maxRecDepth 65536 in
set_option maxHeartbeats 40000000 in
theorem rm_ex_C (l : Launch) (Z : State) (a0 : Array Value) (hw : ∀ d ∈ tables_1, d.before a0 Z = true) (ws : List Jvm.Cond) (ii : Int32) (ql : Int32) (nl : Int32) (qr : Addr) (kq : ClassId) (qv : List Value) (qd : Value) (nr : Addr) (kn : ClassId) (nv : List Value) (nd : Value) (cx : Int32) (h0 : Heap) (n0 : Nat) (Z0 : n0 ≤ h0.size) (f0 : Arv Z h0 qr kq .char (2 : Int32) qv qd) (f1 : Arv Z h0 nr kn .char (3 : Int32) nv nd) (p1 : ¬ ii < ql) (p4 : ¬ (ii - ql) < nl) (p2 : ¬ ((ii - ql) - nl) < 0 ∧ ((ii - ql) - nl) < 2) (p3 : qv.getD ((ii - ql) - nl).toNatClampNeg qd = .int cx) (p5 : nar .char cx = cx) :
    MetFree l (⟨"com/example/alcance/alcance/IdentifiersQuotedPinLaw", "expectedAt", "(III[C[C)C"⟩ : MethodName) (head1 (Jvm.Cond.code (⟨"com/example/alcance/alcance/IdentifiersQuotedPinLaw", "expectedAt", "(III[C[C)C"⟩ : MethodName) method_4_code 7 (some .char) :: ws) ({ frames := 0, cells := 0, slots := 0, locals := 0 } : Room)) (fun a U => a = #[(.int ii), (.int ql), (.int nl), (.ref qr), (.ref nr)] ∧ Z.Warmed39 U.vm ∧ U.heap = h0) (fun _ _ _ _ _ => True) (fun _ U o U' => ∃ v L, o = .returned v ∧ Q_rm_ex_C Z ii ql nl qr kq qv qd nr kn nv nd cx h0 n0 v U'.heap L ∧ FrameEnd U o U' L ({ frames := 0, cells := 0, slots := 0, locals := 0 } : Room).cells ({ frames := 0, cells := 0, slots := 0, locals := 0 } : Room).slots) := by
 refine MetFree.of_bodySF (plainFor_of_name pn_com_example_alcance_alcance_IdentifiersQuotedPinLaw) hisR ?_
 intro p e s m args below meth c s₁ Bd hml0 hP hK
 obtain ⟨rfl, hZ, hh⟩ := hP
 have hx := Bd.exec
 have hby := Bd.bytes
 have hml : c.maxLocals = 7 := hml0
 have hown : s.vm.findClass "com/example/alcance/alcance/IdentifiersQuotedPinLaw" = some m.cls := findClass_of_methodNamed Bd.named
 have hnm := (name_of_methodNamed Bd.named Bd.method).1
 have X0 : Stand p l e ({ frames := 0, cells := 0, slots := 0, locals := 0 } : Room) s m #[(.int ii), (.int ql), (.int nl), (.ref qr), (.ref nr)] below meth c s₁ [] 0 0 := Stand.of_body Bd
 have e0 : s₁.heap = h0 := by rw [← hh, Bd.state]; rfl
 have N0 := Fr.nil n0
 have K00 : Keep h0 h0 [] := Keep.refl _ _
 show Rch p e below s₁ (entryFrame m #[(.int ii), (.int ql), (.int nl), (.ref qr), (.ref nr)] 7) (FinP s (Q_rm_ex_C Z ii ql nl qr kq qv qd nr kn nv nd cx h0 n0) 0 0)
 refine Rch.cast (ef_rm_ex_C m ii ql nl qr kq qv qd nr kn nv nd cx) ?_
 show Rch p e below s₁ (mkF m 0 #[.val (.int ii), .val (.int ql), .val (.int nl), .val (.ref qr), .val (.ref nr), .unset, .unset] []) _
 refine w_iloadN (pc' := 1) X0 hx hby dm4_0 rfl rfl ?_
 refine w_iloadN (pc' := 2) X0 hx hby dm4_1 rfl rfl ?_
 refine w_icmpYes (pc' := 9) X0 hx hby dm4_2 (XT.ii_ge_t (p1)) (by decide) ?_
 refine w_iloadN (pc' := 10) X0 hx hby dm4_9 rfl rfl ?_
 refine w_iloadN (pc' := 11) X0 hx hby dm4_10 rfl rfl ?_
 refine w_isub (pc' := 12) X0 hx hby dm4_11 rfl ?_
 refine w_istore (pc' := 14) (l' := #[.val (.int ii), .val (.int ql), .val (.int nl), .val (.ref qr), .val (.ref nr), .val (.int (ii - ql)), .unset]) X0 hx hby dm4_12 rfl rfl ?_
 refine w_iload (pc' := 16) X0 hx hby dm4_14 rfl rfl ?_
 refine w_iloadN (pc' := 17) X0 hx hby dm4_16 rfl rfl ?_
 refine w_icmpYes (pc' := 26) X0 hx hby dm4_17 (XT.ii_ge_t (p4)) (by decide) ?_
 refine w_iload (pc' := 28) X0 hx hby dm4_26 rfl rfl ?_
 refine w_iloadN (pc' := 29) X0 hx hby dm4_28 rfl rfl ?_
 refine w_isub (pc' := 30) X0 hx hby dm4_29 rfl ?_
 refine w_istore (pc' := 32) (l' := #[.val (.int ii), .val (.int ql), .val (.int nl), .val (.ref qr), .val (.ref nr), .val (.int (ii - ql)), .val (.int ((ii - ql) - nl))]) X0 hx hby dm4_30 rfl rfl ?_
 refine w_aloadN (pc' := 33) X0 hx hby dm4_32 rfl rfl rfl ?_
 refine w_iload (pc' := 35) X0 hx hby dm4_33 rfl rfl ?_
 refine Rch.st (fun _ k => own_ldC X0 hx hZ e0 f0 (j := ((ii - ql) - nl)) (p2) (p3) rfl rfl (hb hby dm4_35) k) ?_
 show Rch p e below s₁ (mkF m 36 #[.val (.int ii), .val (.int ql), .val (.int nl), .val (.ref qr), .val (.ref nr), .val (.int (ii - ql)), .val (.int ((ii - ql) - nl))] [(.int cx)]) _
 exact Rch.retV X0 hx Bd.returns (by show Value.int (nar .char cx) = _; rw [p5]) (Or.inl ⟨rfl, by simp, _, rfl⟩) (hb hby dm4_36) (by rw [e0]; exact ⟨rfl, N0, rfl⟩) (by decide) (by decide)

theorem dm5_0 : decode method_5_code 0 = .ok (.iload_n 1, 1) := by decide +kernel
theorem dm5_1 : decode method_5_code 1 = .ok (.iload_n 2, 1) := by decide +kernel
theorem dm5_2 : decode method_5_code 2 = .ok (.if_icmp .lt 5, 3) := by decide +kernel
theorem dm5_5 : decode method_5_code 5 = .ok (.iconst 1, 1) := by decide +kernel
theorem dm5_6 : decode method_5_code 6 = .ok (.ireturn, 1) := by decide +kernel
theorem dm5_7 : decode method_5_code 7 = .ok (.aload_n 0, 1) := by decide +kernel
theorem dm5_8 : decode method_5_code 8 = .ok (.iload_n 1, 1) := by decide +kernel
theorem dm5_9 : decode method_5_code 9 = .ok (.invokevirtual 41, 3) := by decide +kernel
theorem dm5_12 : decode method_5_code 12 = .ok (.iload_n 1, 1) := by decide +kernel
theorem dm5_13 : decode method_5_code 13 = .ok (.iload_n 3, 1) := by decide +kernel
theorem dm5_14 : decode method_5_code 14 = .ok (.iload 4, 2) := by decide +kernel
theorem dm5_16 : decode method_5_code 16 = .ok (.aload 5, 2) := by decide +kernel
theorem dm5_18 : decode method_5_code 18 = .ok (.aload 6, 2) := by decide +kernel
theorem dm5_20 : decode method_5_code 20 = .ok (.invokestatic 45, 3) := by decide +kernel
theorem dm5_23 : decode method_5_code 23 = .ok (.if_icmp .ne 7, 3) := by decide +kernel
theorem dm5_26 : decode method_5_code 26 = .ok (.iconst 1, 1) := by decide +kernel
theorem dm5_27 : decode method_5_code 27 = .ok (.goto 4, 3) := by decide +kernel
theorem dm5_31 : decode method_5_code 31 = .ok (.ireturn, 1) := by decide +kernel
theorem ef_rm_ok_far (m : MethodId) (aa : Addr) (ii : Int32) (len : Int32) (ql : Int32) (nl : Int32) (qr : Addr) (nr : Addr)  : entryFrame m #[(.ref aa), (.int ii), (.int len), (.int ql), (.int nl), (.ref qr), (.ref nr)] 7 = mkF m 0 #[.val (.ref aa), .val (.int ii), .val (.int len), .val (.int ql), .val (.int nl), .val (.ref qr), .val (.ref nr)] [] := by  first | (simp [entryFrame, mkF, argsToLocals, Value.category, maxLocals]; done) | rfl
def Q_rm_ok_far (Z : State) (aa : Addr) (ii : Int32) (len : Int32) (ql : Int32) (nl : Int32) (qr : Addr) (nr : Addr) (h0 : Heap) (n0 : Nat) (v : Option Value) (h : Heap) (L : List Loc) : Prop := (v = some (.int (1 : Int32))) ∧ (Fr n0 L) ∧ (h = h0)
set_option maxRecDepth 65536 in
set_option maxHeartbeats 40000000 in
theorem rm_ok_far (l : Launch) (Z : State) (a0 : Array Value) (hw : ∀ d ∈ tables_1, d.before a0 Z = true) (ws : List Jvm.Cond) (aa : Addr) (ii : Int32) (len : Int32) (ql : Int32) (nl : Int32) (qr : Addr) (nr : Addr) (h0 : Heap) (n0 : Nat) (Z0 : n0 ≤ h0.size) (p0 : ¬ ii < len) :
    MetFree l (⟨"com/example/alcance/alcance/IdentifiersQuotedPinLaw", "ok", "(Ljava/lang/String;IIII[C[C)Z"⟩ : MethodName) (head1 (Jvm.Cond.code (⟨"com/example/alcance/alcance/IdentifiersQuotedPinLaw", "ok", "(Ljava/lang/String;IIII[C[C)Z"⟩ : MethodName) method_5_code 7 (some .boolean) :: ws) ({ frames := 0, cells := 0, slots := 0, locals := 0 } : Room)) (fun a U => a = #[(.ref aa), (.int ii), (.int len), (.int ql), (.int nl), (.ref qr), (.ref nr)] ∧ Z.Warmed39 U.vm ∧ U.heap = h0) (fun _ _ _ _ _ => True) (fun _ U o U' => ∃ v L, o = .returned v ∧ Q_rm_ok_far Z aa ii len ql nl qr nr h0 n0 v U'.heap L ∧ FrameEnd U o U' L ({ frames := 0, cells := 0, slots := 0, locals := 0 } : Room).cells ({ frames := 0, cells := 0, slots := 0, locals := 0 } : Room).slots) := by
 refine MetFree.of_bodySF (plainFor_of_name pn_com_example_alcance_alcance_IdentifiersQuotedPinLaw) hisR ?_
 intro p e s m args below meth c s₁ Bd hml0 hP hK
 obtain ⟨rfl, hZ, hh⟩ := hP
 have hx := Bd.exec
 have hby := Bd.bytes
 have hml : c.maxLocals = 7 := hml0
 have hown : s.vm.findClass "com/example/alcance/alcance/IdentifiersQuotedPinLaw" = some m.cls := findClass_of_methodNamed Bd.named
 have hnm := (name_of_methodNamed Bd.named Bd.method).1
 have X0 : Stand p l e ({ frames := 0, cells := 0, slots := 0, locals := 0 } : Room) s m #[(.ref aa), (.int ii), (.int len), (.int ql), (.int nl), (.ref qr), (.ref nr)] below meth c s₁ [] 0 0 := Stand.of_body Bd
 have e0 : s₁.heap = h0 := by rw [← hh, Bd.state]; rfl
 have N0 := Fr.nil n0
 have K00 : Keep h0 h0 [] := Keep.refl _ _
 show Rch p e below s₁ (entryFrame m #[(.ref aa), (.int ii), (.int len), (.int ql), (.int nl), (.ref qr), (.ref nr)] 7) (FinP s (Q_rm_ok_far Z aa ii len ql nl qr nr h0 n0) 0 0)
 refine Rch.cast (ef_rm_ok_far m aa ii len ql nl qr nr) ?_
 show Rch p e below s₁ (mkF m 0 #[.val (.ref aa), .val (.int ii), .val (.int len), .val (.int ql), .val (.int nl), .val (.ref qr), .val (.ref nr)] []) _
 refine w_iloadN (pc' := 1) X0 hx hby dm5_0 rfl rfl ?_
 refine w_iloadN (pc' := 2) X0 hx hby dm5_1 rfl rfl ?_
 refine w_icmpNo (pc' := 5) X0 hx hby dm5_2 (XT.ii_lt_f (p0)) rfl ?_
 refine w_iconst (pc' := 6) (v := 1) X0 hx hby dm5_5 rfl rfl ?_
 exact Rch.retV X0 hx Bd.returns rfl (Or.inl ⟨rfl, by simp, _, rfl⟩) (hb hby dm5_6) (by rw [e0]; exact ⟨rfl, N0, rfl⟩) (by decide) (by decide)

theorem ef_rm_ok_A (m : MethodId) (G1 : Int32) (G3 : Value) (aa : Addr) (bb : Addr) (kb : ClassId) (nn : Int32) (vs : List Value) (dd : Value) (ii : Int32) (ql : Int32) (nl : Int32) (qr : Addr) (kq : ClassId) (qv : List Value) (qd : Value) (nr : Addr) (kn : ClassId) (nv : List Value) (nd : Value) (cx : Int32) (len : Int32)  : entryFrame m #[(.ref aa), (.int ii), (.int len), (.int ql), (.int nl), (.ref qr), (.ref nr)] 7 = mkF m 0 #[.val (.ref aa), .val (.int ii), .val (.int len), .val (.int ql), .val (.int nl), .val (.ref qr), .val (.ref nr)] [] := by  first | (simp [entryFrame, mkF, argsToLocals, Value.category, maxLocals]; done) | rfl
def Q_rm_ok_A (Z : State) (G1 : Int32) (G3 : Value) (aa : Addr) (bb : Addr) (kb : ClassId) (nn : Int32) (vs : List Value) (dd : Value) (ii : Int32) (ql : Int32) (nl : Int32) (qr : Addr) (kq : ClassId) (qv : List Value) (qd : Value) (nr : Addr) (kn : ClassId) (nv : List Value) (nd : Value) (cx : Int32) (len : Int32) (h0 : Heap) (n0 : Nat) (v : Option Value) (h : Heap) (L : List Loc) : Prop := (v = some (.int (1 : Int32))) ∧ (Fr n0 L) ∧ (h = h0)
theorem pd__I_C : parseMethodDescriptor "(I)C" = some ⟨[.int], (some .char)⟩ := by decide +kernel
theorem pd__III_C_C_C : parseMethodDescriptor "(III[C[C)C" = some ⟨[.int, .int, .int, (.array .char), (.array .char)], (some .char)⟩ := by decide +kernel
set_option maxRecDepth 65536 in
set_option maxHeartbeats 40000000 in
theorem rm_ok_A (l : Launch) (Z : State) (a0 : Array Value) (hw : ∀ d ∈ tables_1, d.before a0 Z = true) (ws : List Jvm.Cond) (G1 : Int32) (G3 : Value) (aa : Addr) (bb : Addr) (kb : ClassId) (nn : Int32) (vs : List Value) (dd : Value) (ii : Int32) (ql : Int32) (nl : Int32) (qr : Addr) (kq : ClassId) (qv : List Value) (qd : Value) (nr : Addr) (kn : ClassId) (nv : List Value) (nd : Value) (cx : Int32) (len : Int32) (h0 : Heap) (n0 : Nat) (Z0 : n0 ≤ h0.size) (O2 : Sta Z Z.heap "java/lang/String" "COMPACT_STRINGS" "Z" (.int G1)) (P5 : ¬ G1 = 0) (O4 : Sta Z Z.heap "jdk/internal/util/Preconditions" "SIOOBE_FORMATTER" "Ljava/util/function/BiFunction;" G3) (rG3 : G3.isRef = true) (f4 : Exa Z h0 aa "java/lang/String") (f5 : Fld Z h0 aa "java/lang/String" "coder" "B" (.int (0 : Int32))) (f6 : Fld Z h0 aa "java/lang/String" "value" "[B" (.ref bb)) (f7 : Arv Z h0 bb kb .byte nn vs dd) (f8 : Arv Z h0 qr kq .char (2 : Int32) qv qd) (f9 : Arv Z h0 nr kn .char (3 : Int32) nv nd) (p1 : ii < ql) (p2 : ¬ ii < 0 ∧ ii < 2) (p3 : qv.getD ii.toNatClampNeg qd = .int cx) (p5 : Ch8 cx) (p0 : ii < len) (p6 : ¬ ii < 0) (p7 : ii < nn) (p8 : vs.getD ii.toNatClampNeg dd = .int (own_by cx)) (Old0 : OldL Z n0 h0) :
    MetFree l (⟨"com/example/alcance/alcance/IdentifiersQuotedPinLaw", "ok", "(Ljava/lang/String;IIII[C[C)Z"⟩ : MethodName) (head1 (Jvm.Cond.code (⟨"com/example/alcance/alcance/IdentifiersQuotedPinLaw", "ok", "(Ljava/lang/String;IIII[C[C)Z"⟩ : MethodName) method_5_code 7 (some .boolean) :: ws) ({ frames := 4, cells := 0, slots := 0, locals := 53 } : Room)) (fun a U => a = #[(.ref aa), (.int ii), (.int len), (.int ql), (.int nl), (.ref qr), (.ref nr)] ∧ Z.Warmed39 U.vm ∧ U.heap = h0) (fun _ _ _ _ _ => True) (fun _ U o U' => ∃ v L, o = .returned v ∧ Q_rm_ok_A Z G1 G3 aa bb kb nn vs dd ii ql nl qr kq qv qd nr kn nv nd cx len h0 n0 v U'.heap L ∧ FrameEnd U o U' L ({ frames := 4, cells := 0, slots := 0, locals := 53 } : Room).cells ({ frames := 4, cells := 0, slots := 0, locals := 53 } : Room).slots) := by
 refine MetFree.of_bodySF (plainFor_of_name pn_com_example_alcance_alcance_IdentifiersQuotedPinLaw) hisR ?_
 intro p e s m args below meth c s₁ Bd hml0 hP hK
 obtain ⟨rfl, hZ, hh⟩ := hP
 have hx := Bd.exec
 have hby := Bd.bytes
 have hml : c.maxLocals = 7 := hml0
 have hown : s.vm.findClass "com/example/alcance/alcance/IdentifiersQuotedPinLaw" = some m.cls := findClass_of_methodNamed Bd.named
 have hnm := (name_of_methodNamed Bd.named Bd.method).1
 have X0 : Stand p l e ({ frames := 4, cells := 0, slots := 0, locals := 53 } : Room) s m #[(.ref aa), (.int ii), (.int len), (.int ql), (.int nl), (.ref qr), (.ref nr)] below meth c s₁ [] 0 0 := Stand.of_body Bd
 have e0 : s₁.heap = h0 := by rw [← hh, Bd.state]; rfl
 have N0 := Fr.nil n0
 have K00 : Keep h0 h0 [] := Keep.refl _ _
 show Rch p e below s₁ (entryFrame m #[(.ref aa), (.int ii), (.int len), (.int ql), (.int nl), (.ref qr), (.ref nr)] 7) (FinP s (Q_rm_ok_A Z G1 G3 aa bb kb nn vs dd ii ql nl qr kq qv qd nr kn nv nd cx len h0 n0) 0 0)
 refine Rch.cast (ef_rm_ok_A m G1 G3 aa bb kb nn vs dd ii ql nl qr kq qv qd nr kn nv nd cx len) ?_
 show Rch p e below s₁ (mkF m 0 #[.val (.ref aa), .val (.int ii), .val (.int len), .val (.int ql), .val (.int nl), .val (.ref qr), .val (.ref nr)] []) _
 refine w_iloadN (pc' := 1) X0 hx hby dm5_0 rfl rfl ?_
 refine w_iloadN (pc' := 2) X0 hx hby dm5_1 rfl rfl ?_
 refine w_icmpYes (pc' := 7) X0 hx hby dm5_2 (XT.ii_lt_t (p0)) (by decide) ?_
 refine w_aloadN (pc' := 8) X0 hx hby dm5_7 rfl rfl rfl ?_
 refine w_iloadN (pc' := 9) X0 hx hby dm5_8 rfl rfl ?_
 obtain ⟨cq816, kq816, q816a, q816b, q816c⟩ := isOf hZ e0 f4
 obtain ⟨_, _, ⟨T816, L816, k816, n816⟩, -, X816, ⟨Lc816, hQ816, l816, y816, z816⟩, st816⟩ := X0.virtualBack hx (y := (⟨"java/lang/String", "charAt", "(I)C"⟩ : MethodName)) (z := (⟨"java/lang/String", "charAt", "(I)C"⟩ : MethodName)) hown (mvT hZ (wi hw 188 rfl)) (mvT hZ (wi hw 189 rfl)) (notFace_of_selects (args := #[]) (mvT hZ (wi hw 191 rfl))) (mvT hZ (wi hw 191 rfl)) (mvT hZ (wi hw 190 rfl)) (by decide) (backOf (W := 0) (rm_chA l Z a0 hw [] G1 aa bb kb nn vs dd ii (own_by cx) G3 h0 n0 Z0 (O2) (P5) (O4) (rG3) f4 f5 f6 f7 (p6) (p7) (p8) Old0) hZ (wi hw 192 rfl) (wi hw 6 rfl) (by decide) (by decide)) q816a q816c (g := (mkF m 9 #[.val (.ref aa), .val (.int ii), .val (.int len), .val (.int ql), .val (.int nl), .val (.ref qr), .val (.ref nr)] [(.int ii), (.ref aa)])) rfl (by rw [hml]; rfl) (Steps.refl _) (argsL := [(.int ii)]) (rest := []) (lenOf pd__I_C rfl) rfl (by show 2 * 0 + _ ≤ _; exact Nat.le_of_eq rfl) (hb hby dm5_9) (fun _ _ => ⟨rfl, e0, (by decide : 0 + 0 ≤ _), (by decide : 0 + 0 ≤ _)⟩)
 dsimp only [Pt.U, Pt.locs, Pt.cells, Pt.slots] at X816 l816 y816 z816 st816 hQ816
 subst l816 y816 z816
 obtain ⟨rfl, NQ816, K816⟩ := hQ816
 have N817 := Fr.app N0 NQ816
 refine Rch.st (fun _ k => st816.trans k) ?_
 show Rch p e below T816 (mkF m 12 #[.val (.ref aa), .val (.int ii), .val (.int len), .val (.int ql), .val (.int nl), .val (.ref qr), .val (.ref nr)] [(.int (nar .char ((own_by cx) &&& (255 : Int32))))]) _
 have r818 : (nar .char ((own_by cx) &&& (255 : Int32))) = cx := p5.by8
 rw [r818]
 show Rch p e below T816 (mkF m 12 #[.val (.ref aa), .val (.int ii), .val (.int len), .val (.int ql), .val (.int nl), .val (.ref qr), .val (.ref nr)] [(.int cx)]) _
 refine w_iloadN (pc' := 13) X816 hx hby dm5_12 rfl rfl ?_
 refine w_iloadN (pc' := 14) X816 hx hby dm5_13 rfl rfl ?_
 refine w_iload (pc' := 16) X816 hx hby dm5_14 rfl rfl ?_
 refine w_aload (pc' := 18) X816 hx hby dm5_16 rfl rfl rfl ?_
 refine w_aload (pc' := 20) X816 hx hby dm5_18 rfl rfl rfl ?_
 obtain ⟨_, _, ⟨T819, L819, k819, n819⟩, -, X819, ⟨Lc819, hQ819, l819, y819, z819⟩, st819⟩ := Jvm.LawKit.callS X816 hx (y := (⟨"com/example/alcance/alcance/IdentifiersQuotedPinLaw", "expectedAt", "(III[C[C)C"⟩ : MethodName)) hown (mvT hZ (wi hw 209 rfl)) (mvT hZ (wi hw 210 rfl)) (mvT hZ (wi hw 3 rfl)) (mvT hZ (wi hw 211 rfl)) (by decide) (backOf (W := 1) (rm_ex_A l Z a0 hw [] ii ql nl qr kq qv qd nr kn nv nd cx h0 n0 Z0 f8 f9 (p1) (p2) (p3) (p5.nr)) hZ (wi hw 211 rfl) (wi hw 3 rfl) (by decide) (by decide)) (g := (mkF m 20 #[.val (.ref aa), .val (.int ii), .val (.int len), .val (.int ql), .val (.int nl), .val (.ref qr), .val (.ref nr)] [(.ref nr), (.ref qr), (.int nl), (.int ql), (.int ii), (.int cx)])) rfl (by rw [hml]; rfl) (argsL := [(.int ii), (.int ql), (.int nl), (.ref qr), (.ref nr)]) (rest := [(.int cx)]) (lenOf pd__III_C_C_C rfl) rfl (by show 2 * 0 + _ ≤ _; exact Nat.le_of_eq rfl) (hb hby dm5_20) (fun _ _ => ⟨rfl, K816, (by decide : 0 + 0 ≤ _), (by decide : 0 + 0 ≤ _)⟩)
 dsimp only [Pt.U, Pt.locs, Pt.cells, Pt.slots] at X819 l819 y819 z819 st819 hQ819
 subst l819 y819 z819
 obtain ⟨rfl, NQ819, K819⟩ := hQ819
 have N820 := Fr.app N817 NQ819
 refine Rch.st (fun _ k => st819 _ k) ?_
 show Rch p e below T819 (mkF m 23 #[.val (.ref aa), .val (.int ii), .val (.int len), .val (.int ql), .val (.int nl), .val (.ref qr), .val (.ref nr)] [(.int cx), (.int cx)]) _
 refine w_icmpNo (pc' := 26) X819 hx hby dm5_23 (XT.ii_ne_f (rfl)) rfl ?_
 refine w_iconst (pc' := 27) (v := 1) X819 hx hby dm5_26 rfl rfl ?_
 refine w_goto (pc' := 31) X819 hx hby dm5_27 (by decide) ?_
 exact Rch.retV X819 hx Bd.returns rfl (Or.inl ⟨rfl, by simp, _, rfl⟩) (hb hby dm5_31) (by rw [K819]; exact ⟨rfl, N820, rfl⟩) (by decide) (by decide)

theorem ef_rm_ok_B (m : MethodId) (G1 : Int32) (G3 : Value) (aa : Addr) (bb : Addr) (kb : ClassId) (nn : Int32) (vs : List Value) (dd : Value) (ii : Int32) (ql : Int32) (nl : Int32) (qr : Addr) (kq : ClassId) (qv : List Value) (qd : Value) (nr : Addr) (kn : ClassId) (nv : List Value) (nd : Value) (cx : Int32) (len : Int32)  : entryFrame m #[(.ref aa), (.int ii), (.int len), (.int ql), (.int nl), (.ref qr), (.ref nr)] 7 = mkF m 0 #[.val (.ref aa), .val (.int ii), .val (.int len), .val (.int ql), .val (.int nl), .val (.ref qr), .val (.ref nr)] [] := by  first | (simp [entryFrame, mkF, argsToLocals, Value.category, maxLocals]; done) | rfl
def Q_rm_ok_B (Z : State) (G1 : Int32) (G3 : Value) (aa : Addr) (bb : Addr) (kb : ClassId) (nn : Int32) (vs : List Value) (dd : Value) (ii : Int32) (ql : Int32) (nl : Int32) (qr : Addr) (kq : ClassId) (qv : List Value) (qd : Value) (nr : Addr) (kn : ClassId) (nv : List Value) (nd : Value) (cx : Int32) (len : Int32) (h0 : Heap) (n0 : Nat) (v : Option Value) (h : Heap) (L : List Loc) : Prop := (v = some (.int (1 : Int32))) ∧ (Fr n0 L) ∧ (h = h0)
set_option maxRecDepth 65536 in
set_option maxHeartbeats 40000000 in
theorem rm_ok_B (l : Launch) (Z : State) (a0 : Array Value) (hw : ∀ d ∈ tables_1, d.before a0 Z = true) (ws : List Jvm.Cond) (G1 : Int32) (G3 : Value) (aa : Addr) (bb : Addr) (kb : ClassId) (nn : Int32) (vs : List Value) (dd : Value) (ii : Int32) (ql : Int32) (nl : Int32) (qr : Addr) (kq : ClassId) (qv : List Value) (qd : Value) (nr : Addr) (kn : ClassId) (nv : List Value) (nd : Value) (cx : Int32) (len : Int32) (h0 : Heap) (n0 : Nat) (Z0 : n0 ≤ h0.size) (O2 : Sta Z Z.heap "java/lang/String" "COMPACT_STRINGS" "Z" (.int G1)) (P5 : ¬ G1 = 0) (O4 : Sta Z Z.heap "jdk/internal/util/Preconditions" "SIOOBE_FORMATTER" "Ljava/util/function/BiFunction;" G3) (rG3 : G3.isRef = true) (f4 : Exa Z h0 aa "java/lang/String") (f5 : Fld Z h0 aa "java/lang/String" "coder" "B" (.int (0 : Int32))) (f6 : Fld Z h0 aa "java/lang/String" "value" "[B" (.ref bb)) (f7 : Arv Z h0 bb kb .byte nn vs dd) (f8 : Arv Z h0 qr kq .char (2 : Int32) qv qd) (f9 : Arv Z h0 nr kn .char (3 : Int32) nv nd) (p1 : ¬ ii < ql) (p4 : (ii - ql) < nl) (p2 : ¬ (ii - ql) < 0 ∧ (ii - ql) < 3) (p3 : nv.getD (ii - ql).toNatClampNeg nd = .int cx) (p5 : Ch8 cx) (p0 : ii < len) (p6 : ¬ ii < 0) (p7 : ii < nn) (p8 : vs.getD ii.toNatClampNeg dd = .int (own_by cx)) (Old0 : OldL Z n0 h0) :
    MetFree l (⟨"com/example/alcance/alcance/IdentifiersQuotedPinLaw", "ok", "(Ljava/lang/String;IIII[C[C)Z"⟩ : MethodName) (head1 (Jvm.Cond.code (⟨"com/example/alcance/alcance/IdentifiersQuotedPinLaw", "ok", "(Ljava/lang/String;IIII[C[C)Z"⟩ : MethodName) method_5_code 7 (some .boolean) :: ws) ({ frames := 4, cells := 0, slots := 0, locals := 53 } : Room)) (fun a U => a = #[(.ref aa), (.int ii), (.int len), (.int ql), (.int nl), (.ref qr), (.ref nr)] ∧ Z.Warmed39 U.vm ∧ U.heap = h0) (fun _ _ _ _ _ => True) (fun _ U o U' => ∃ v L, o = .returned v ∧ Q_rm_ok_B Z G1 G3 aa bb kb nn vs dd ii ql nl qr kq qv qd nr kn nv nd cx len h0 n0 v U'.heap L ∧ FrameEnd U o U' L ({ frames := 4, cells := 0, slots := 0, locals := 53 } : Room).cells ({ frames := 4, cells := 0, slots := 0, locals := 53 } : Room).slots) := by
 refine MetFree.of_bodySF (plainFor_of_name pn_com_example_alcance_alcance_IdentifiersQuotedPinLaw) hisR ?_
 intro p e s m args below meth c s₁ Bd hml0 hP hK
 obtain ⟨rfl, hZ, hh⟩ := hP
 have hx := Bd.exec
 have hby := Bd.bytes
 have hml : c.maxLocals = 7 := hml0
 have hown : s.vm.findClass "com/example/alcance/alcance/IdentifiersQuotedPinLaw" = some m.cls := findClass_of_methodNamed Bd.named
 have hnm := (name_of_methodNamed Bd.named Bd.method).1
 have X0 : Stand p l e ({ frames := 4, cells := 0, slots := 0, locals := 53 } : Room) s m #[(.ref aa), (.int ii), (.int len), (.int ql), (.int nl), (.ref qr), (.ref nr)] below meth c s₁ [] 0 0 := Stand.of_body Bd
 have e0 : s₁.heap = h0 := by rw [← hh, Bd.state]; rfl
 have N0 := Fr.nil n0
 have K00 : Keep h0 h0 [] := Keep.refl _ _
 show Rch p e below s₁ (entryFrame m #[(.ref aa), (.int ii), (.int len), (.int ql), (.int nl), (.ref qr), (.ref nr)] 7) (FinP s (Q_rm_ok_B Z G1 G3 aa bb kb nn vs dd ii ql nl qr kq qv qd nr kn nv nd cx len h0 n0) 0 0)
 refine Rch.cast (ef_rm_ok_B m G1 G3 aa bb kb nn vs dd ii ql nl qr kq qv qd nr kn nv nd cx len) ?_
 show Rch p e below s₁ (mkF m 0 #[.val (.ref aa), .val (.int ii), .val (.int len), .val (.int ql), .val (.int nl), .val (.ref qr), .val (.ref nr)] []) _
 refine w_iloadN (pc' := 1) X0 hx hby dm5_0 rfl rfl ?_
 refine w_iloadN (pc' := 2) X0 hx hby dm5_1 rfl rfl ?_
 refine w_icmpYes (pc' := 7) X0 hx hby dm5_2 (XT.ii_lt_t (p0)) (by decide) ?_
 refine w_aloadN (pc' := 8) X0 hx hby dm5_7 rfl rfl rfl ?_
 refine w_iloadN (pc' := 9) X0 hx hby dm5_8 rfl rfl ?_
 obtain ⟨cq821, kq821, q821a, q821b, q821c⟩ := isOf hZ e0 f4
 obtain ⟨_, _, ⟨T821, L821, k821, n821⟩, -, X821, ⟨Lc821, hQ821, l821, y821, z821⟩, st821⟩ := X0.virtualBack hx (y := (⟨"java/lang/String", "charAt", "(I)C"⟩ : MethodName)) (z := (⟨"java/lang/String", "charAt", "(I)C"⟩ : MethodName)) hown (mvT hZ (wi hw 188 rfl)) (mvT hZ (wi hw 189 rfl)) (notFace_of_selects (args := #[]) (mvT hZ (wi hw 191 rfl))) (mvT hZ (wi hw 191 rfl)) (mvT hZ (wi hw 190 rfl)) (by decide) (backOf (W := 0) (rm_chA l Z a0 hw [] G1 aa bb kb nn vs dd ii (own_by cx) G3 h0 n0 Z0 (O2) (P5) (O4) (rG3) f4 f5 f6 f7 (p6) (p7) (p8) Old0) hZ (wi hw 192 rfl) (wi hw 6 rfl) (by decide) (by decide)) q821a q821c (g := (mkF m 9 #[.val (.ref aa), .val (.int ii), .val (.int len), .val (.int ql), .val (.int nl), .val (.ref qr), .val (.ref nr)] [(.int ii), (.ref aa)])) rfl (by rw [hml]; rfl) (Steps.refl _) (argsL := [(.int ii)]) (rest := []) (lenOf pd__I_C rfl) rfl (by show 2 * 0 + _ ≤ _; exact Nat.le_of_eq rfl) (hb hby dm5_9) (fun _ _ => ⟨rfl, e0, (by decide : 0 + 0 ≤ _), (by decide : 0 + 0 ≤ _)⟩)
 dsimp only [Pt.U, Pt.locs, Pt.cells, Pt.slots] at X821 l821 y821 z821 st821 hQ821
 subst l821 y821 z821
 obtain ⟨rfl, NQ821, K821⟩ := hQ821
 have N822 := Fr.app N0 NQ821
 refine Rch.st (fun _ k => st821.trans k) ?_
 show Rch p e below T821 (mkF m 12 #[.val (.ref aa), .val (.int ii), .val (.int len), .val (.int ql), .val (.int nl), .val (.ref qr), .val (.ref nr)] [(.int (nar .char ((own_by cx) &&& (255 : Int32))))]) _
 have r823 : (nar .char ((own_by cx) &&& (255 : Int32))) = cx := p5.by8
 rw [r823]
 show Rch p e below T821 (mkF m 12 #[.val (.ref aa), .val (.int ii), .val (.int len), .val (.int ql), .val (.int nl), .val (.ref qr), .val (.ref nr)] [(.int cx)]) _
 refine w_iloadN (pc' := 13) X821 hx hby dm5_12 rfl rfl ?_
 refine w_iloadN (pc' := 14) X821 hx hby dm5_13 rfl rfl ?_
 refine w_iload (pc' := 16) X821 hx hby dm5_14 rfl rfl ?_
 refine w_aload (pc' := 18) X821 hx hby dm5_16 rfl rfl rfl ?_
 refine w_aload (pc' := 20) X821 hx hby dm5_18 rfl rfl rfl ?_
 obtain ⟨_, _, ⟨T824, L824, k824, n824⟩, -, X824, ⟨Lc824, hQ824, l824, y824, z824⟩, st824⟩ := Jvm.LawKit.callS X821 hx (y := (⟨"com/example/alcance/alcance/IdentifiersQuotedPinLaw", "expectedAt", "(III[C[C)C"⟩ : MethodName)) hown (mvT hZ (wi hw 209 rfl)) (mvT hZ (wi hw 210 rfl)) (mvT hZ (wi hw 3 rfl)) (mvT hZ (wi hw 211 rfl)) (by decide) (backOf (W := 1) (rm_ex_B l Z a0 hw [] ii ql nl qr kq qv qd nr kn nv nd cx h0 n0 Z0 f8 f9 (p1) (p4) (p2) (p3) (p5.nr)) hZ (wi hw 211 rfl) (wi hw 3 rfl) (by decide) (by decide)) (g := (mkF m 20 #[.val (.ref aa), .val (.int ii), .val (.int len), .val (.int ql), .val (.int nl), .val (.ref qr), .val (.ref nr)] [(.ref nr), (.ref qr), (.int nl), (.int ql), (.int ii), (.int cx)])) rfl (by rw [hml]; rfl) (argsL := [(.int ii), (.int ql), (.int nl), (.ref qr), (.ref nr)]) (rest := [(.int cx)]) (lenOf pd__III_C_C_C rfl) rfl (by show 2 * 0 + _ ≤ _; exact Nat.le_of_eq rfl) (hb hby dm5_20) (fun _ _ => ⟨rfl, K821, (by decide : 0 + 0 ≤ _), (by decide : 0 + 0 ≤ _)⟩)
 dsimp only [Pt.U, Pt.locs, Pt.cells, Pt.slots] at X824 l824 y824 z824 st824 hQ824
 subst l824 y824 z824
 obtain ⟨rfl, NQ824, K824⟩ := hQ824
 have N825 := Fr.app N822 NQ824
 refine Rch.st (fun _ k => st824 _ k) ?_
 show Rch p e below T824 (mkF m 23 #[.val (.ref aa), .val (.int ii), .val (.int len), .val (.int ql), .val (.int nl), .val (.ref qr), .val (.ref nr)] [(.int cx), (.int cx)]) _
 refine w_icmpNo (pc' := 26) X824 hx hby dm5_23 (XT.ii_ne_f (rfl)) rfl ?_
 refine w_iconst (pc' := 27) (v := 1) X824 hx hby dm5_26 rfl rfl ?_
 refine w_goto (pc' := 31) X824 hx hby dm5_27 (by decide) ?_
 exact Rch.retV X824 hx Bd.returns rfl (Or.inl ⟨rfl, by simp, _, rfl⟩) (hb hby dm5_31) (by rw [K824]; exact ⟨rfl, N825, rfl⟩) (by decide) (by decide)

theorem ef_rm_ok_C (m : MethodId) (G1 : Int32) (G3 : Value) (aa : Addr) (bb : Addr) (kb : ClassId) (nn : Int32) (vs : List Value) (dd : Value) (ii : Int32) (ql : Int32) (nl : Int32) (qr : Addr) (kq : ClassId) (qv : List Value) (qd : Value) (nr : Addr) (kn : ClassId) (nv : List Value) (nd : Value) (cx : Int32) (len : Int32)  : entryFrame m #[(.ref aa), (.int ii), (.int len), (.int ql), (.int nl), (.ref qr), (.ref nr)] 7 = mkF m 0 #[.val (.ref aa), .val (.int ii), .val (.int len), .val (.int ql), .val (.int nl), .val (.ref qr), .val (.ref nr)] [] := by  first | (simp [entryFrame, mkF, argsToLocals, Value.category, maxLocals]; done) | rfl
def Q_rm_ok_C (Z : State) (G1 : Int32) (G3 : Value) (aa : Addr) (bb : Addr) (kb : ClassId) (nn : Int32) (vs : List Value) (dd : Value) (ii : Int32) (ql : Int32) (nl : Int32) (qr : Addr) (kq : ClassId) (qv : List Value) (qd : Value) (nr : Addr) (kn : ClassId) (nv : List Value) (nd : Value) (cx : Int32) (len : Int32) (h0 : Heap) (n0 : Nat) (v : Option Value) (h : Heap) (L : List Loc) : Prop := (v = some (.int (1 : Int32))) ∧ (Fr n0 L) ∧ (h = h0)
set_option maxRecDepth 65536 in
set_option maxHeartbeats 40000000 in
theorem rm_ok_C (l : Launch) (Z : State) (a0 : Array Value) (hw : ∀ d ∈ tables_1, d.before a0 Z = true) (ws : List Jvm.Cond) (G1 : Int32) (G3 : Value) (aa : Addr) (bb : Addr) (kb : ClassId) (nn : Int32) (vs : List Value) (dd : Value) (ii : Int32) (ql : Int32) (nl : Int32) (qr : Addr) (kq : ClassId) (qv : List Value) (qd : Value) (nr : Addr) (kn : ClassId) (nv : List Value) (nd : Value) (cx : Int32) (len : Int32) (h0 : Heap) (n0 : Nat) (Z0 : n0 ≤ h0.size) (O2 : Sta Z Z.heap "java/lang/String" "COMPACT_STRINGS" "Z" (.int G1)) (P5 : ¬ G1 = 0) (O4 : Sta Z Z.heap "jdk/internal/util/Preconditions" "SIOOBE_FORMATTER" "Ljava/util/function/BiFunction;" G3) (rG3 : G3.isRef = true) (f4 : Exa Z h0 aa "java/lang/String") (f5 : Fld Z h0 aa "java/lang/String" "coder" "B" (.int (0 : Int32))) (f6 : Fld Z h0 aa "java/lang/String" "value" "[B" (.ref bb)) (f7 : Arv Z h0 bb kb .byte nn vs dd) (f8 : Arv Z h0 qr kq .char (2 : Int32) qv qd) (f9 : Arv Z h0 nr kn .char (3 : Int32) nv nd) (p1 : ¬ ii < ql) (p4 : ¬ (ii - ql) < nl) (p2 : ¬ ((ii - ql) - nl) < 0 ∧ ((ii - ql) - nl) < 2) (p3 : qv.getD ((ii - ql) - nl).toNatClampNeg qd = .int cx) (p5 : Ch8 cx) (p0 : ii < len) (p6 : ¬ ii < 0) (p7 : ii < nn) (p8 : vs.getD ii.toNatClampNeg dd = .int (own_by cx)) (Old0 : OldL Z n0 h0) :
    MetFree l (⟨"com/example/alcance/alcance/IdentifiersQuotedPinLaw", "ok", "(Ljava/lang/String;IIII[C[C)Z"⟩ : MethodName) (head1 (Jvm.Cond.code (⟨"com/example/alcance/alcance/IdentifiersQuotedPinLaw", "ok", "(Ljava/lang/String;IIII[C[C)Z"⟩ : MethodName) method_5_code 7 (some .boolean) :: ws) ({ frames := 4, cells := 0, slots := 0, locals := 53 } : Room)) (fun a U => a = #[(.ref aa), (.int ii), (.int len), (.int ql), (.int nl), (.ref qr), (.ref nr)] ∧ Z.Warmed39 U.vm ∧ U.heap = h0) (fun _ _ _ _ _ => True) (fun _ U o U' => ∃ v L, o = .returned v ∧ Q_rm_ok_C Z G1 G3 aa bb kb nn vs dd ii ql nl qr kq qv qd nr kn nv nd cx len h0 n0 v U'.heap L ∧ FrameEnd U o U' L ({ frames := 4, cells := 0, slots := 0, locals := 53 } : Room).cells ({ frames := 4, cells := 0, slots := 0, locals := 53 } : Room).slots) := by
 refine MetFree.of_bodySF (plainFor_of_name pn_com_example_alcance_alcance_IdentifiersQuotedPinLaw) hisR ?_
 intro p e s m args below meth c s₁ Bd hml0 hP hK
 obtain ⟨rfl, hZ, hh⟩ := hP
 have hx := Bd.exec
 have hby := Bd.bytes
 have hml : c.maxLocals = 7 := hml0
 have hown : s.vm.findClass "com/example/alcance/alcance/IdentifiersQuotedPinLaw" = some m.cls := findClass_of_methodNamed Bd.named
 have hnm := (name_of_methodNamed Bd.named Bd.method).1
 have X0 : Stand p l e ({ frames := 4, cells := 0, slots := 0, locals := 53 } : Room) s m #[(.ref aa), (.int ii), (.int len), (.int ql), (.int nl), (.ref qr), (.ref nr)] below meth c s₁ [] 0 0 := Stand.of_body Bd
 have e0 : s₁.heap = h0 := by rw [← hh, Bd.state]; rfl
 have N0 := Fr.nil n0
 have K00 : Keep h0 h0 [] := Keep.refl _ _
 show Rch p e below s₁ (entryFrame m #[(.ref aa), (.int ii), (.int len), (.int ql), (.int nl), (.ref qr), (.ref nr)] 7) (FinP s (Q_rm_ok_C Z G1 G3 aa bb kb nn vs dd ii ql nl qr kq qv qd nr kn nv nd cx len h0 n0) 0 0)
 refine Rch.cast (ef_rm_ok_C m G1 G3 aa bb kb nn vs dd ii ql nl qr kq qv qd nr kn nv nd cx len) ?_
 show Rch p e below s₁ (mkF m 0 #[.val (.ref aa), .val (.int ii), .val (.int len), .val (.int ql), .val (.int nl), .val (.ref qr), .val (.ref nr)] []) _
 refine w_iloadN (pc' := 1) X0 hx hby dm5_0 rfl rfl ?_
 refine w_iloadN (pc' := 2) X0 hx hby dm5_1 rfl rfl ?_
 refine w_icmpYes (pc' := 7) X0 hx hby dm5_2 (XT.ii_lt_t (p0)) (by decide) ?_
 refine w_aloadN (pc' := 8) X0 hx hby dm5_7 rfl rfl rfl ?_
 refine w_iloadN (pc' := 9) X0 hx hby dm5_8 rfl rfl ?_
 obtain ⟨cq826, kq826, q826a, q826b, q826c⟩ := isOf hZ e0 f4
 obtain ⟨_, _, ⟨T826, L826, k826, n826⟩, -, X826, ⟨Lc826, hQ826, l826, y826, z826⟩, st826⟩ := X0.virtualBack hx (y := (⟨"java/lang/String", "charAt", "(I)C"⟩ : MethodName)) (z := (⟨"java/lang/String", "charAt", "(I)C"⟩ : MethodName)) hown (mvT hZ (wi hw 188 rfl)) (mvT hZ (wi hw 189 rfl)) (notFace_of_selects (args := #[]) (mvT hZ (wi hw 191 rfl))) (mvT hZ (wi hw 191 rfl)) (mvT hZ (wi hw 190 rfl)) (by decide) (backOf (W := 0) (rm_chA l Z a0 hw [] G1 aa bb kb nn vs dd ii (own_by cx) G3 h0 n0 Z0 (O2) (P5) (O4) (rG3) f4 f5 f6 f7 (p6) (p7) (p8) Old0) hZ (wi hw 192 rfl) (wi hw 6 rfl) (by decide) (by decide)) q826a q826c (g := (mkF m 9 #[.val (.ref aa), .val (.int ii), .val (.int len), .val (.int ql), .val (.int nl), .val (.ref qr), .val (.ref nr)] [(.int ii), (.ref aa)])) rfl (by rw [hml]; rfl) (Steps.refl _) (argsL := [(.int ii)]) (rest := []) (lenOf pd__I_C rfl) rfl (by show 2 * 0 + _ ≤ _; exact Nat.le_of_eq rfl) (hb hby dm5_9) (fun _ _ => ⟨rfl, e0, (by decide : 0 + 0 ≤ _), (by decide : 0 + 0 ≤ _)⟩)
 dsimp only [Pt.U, Pt.locs, Pt.cells, Pt.slots] at X826 l826 y826 z826 st826 hQ826
 subst l826 y826 z826
 obtain ⟨rfl, NQ826, K826⟩ := hQ826
 have N827 := Fr.app N0 NQ826
 refine Rch.st (fun _ k => st826.trans k) ?_
 show Rch p e below T826 (mkF m 12 #[.val (.ref aa), .val (.int ii), .val (.int len), .val (.int ql), .val (.int nl), .val (.ref qr), .val (.ref nr)] [(.int (nar .char ((own_by cx) &&& (255 : Int32))))]) _
 have r828 : (nar .char ((own_by cx) &&& (255 : Int32))) = cx := p5.by8
 rw [r828]
 show Rch p e below T826 (mkF m 12 #[.val (.ref aa), .val (.int ii), .val (.int len), .val (.int ql), .val (.int nl), .val (.ref qr), .val (.ref nr)] [(.int cx)]) _
 refine w_iloadN (pc' := 13) X826 hx hby dm5_12 rfl rfl ?_
 refine w_iloadN (pc' := 14) X826 hx hby dm5_13 rfl rfl ?_
 refine w_iload (pc' := 16) X826 hx hby dm5_14 rfl rfl ?_
 refine w_aload (pc' := 18) X826 hx hby dm5_16 rfl rfl rfl ?_
 refine w_aload (pc' := 20) X826 hx hby dm5_18 rfl rfl rfl ?_
 obtain ⟨_, _, ⟨T829, L829, k829, n829⟩, -, X829, ⟨Lc829, hQ829, l829, y829, z829⟩, st829⟩ := Jvm.LawKit.callS X826 hx (y := (⟨"com/example/alcance/alcance/IdentifiersQuotedPinLaw", "expectedAt", "(III[C[C)C"⟩ : MethodName)) hown (mvT hZ (wi hw 209 rfl)) (mvT hZ (wi hw 210 rfl)) (mvT hZ (wi hw 3 rfl)) (mvT hZ (wi hw 211 rfl)) (by decide) (backOf (W := 1) (rm_ex_C l Z a0 hw [] ii ql nl qr kq qv qd nr kn nv nd cx h0 n0 Z0 f8 f9 (p1) (p4) (p2) (p3) (p5.nr)) hZ (wi hw 211 rfl) (wi hw 3 rfl) (by decide) (by decide)) (g := (mkF m 20 #[.val (.ref aa), .val (.int ii), .val (.int len), .val (.int ql), .val (.int nl), .val (.ref qr), .val (.ref nr)] [(.ref nr), (.ref qr), (.int nl), (.int ql), (.int ii), (.int cx)])) rfl (by rw [hml]; rfl) (argsL := [(.int ii), (.int ql), (.int nl), (.ref qr), (.ref nr)]) (rest := [(.int cx)]) (lenOf pd__III_C_C_C rfl) rfl (by show 2 * 0 + _ ≤ _; exact Nat.le_of_eq rfl) (hb hby dm5_20) (fun _ _ => ⟨rfl, K826, (by decide : 0 + 0 ≤ _), (by decide : 0 + 0 ≤ _)⟩)
 dsimp only [Pt.U, Pt.locs, Pt.cells, Pt.slots] at X829 l829 y829 z829 st829 hQ829
 subst l829 y829 z829
 obtain ⟨rfl, NQ829, K829⟩ := hQ829
 have N830 := Fr.app N827 NQ829
 refine Rch.st (fun _ k => st829 _ k) ?_
 show Rch p e below T829 (mkF m 23 #[.val (.ref aa), .val (.int ii), .val (.int len), .val (.int ql), .val (.int nl), .val (.ref qr), .val (.ref nr)] [(.int cx), (.int cx)]) _
 refine w_icmpNo (pc' := 26) X829 hx hby dm5_23 (XT.ii_ne_f (rfl)) rfl ?_
 refine w_iconst (pc' := 27) (v := 1) X829 hx hby dm5_26 rfl rfl ?_
 refine w_goto (pc' := 31) X829 hx hby dm5_27 (by decide) ?_
 exact Rch.retV X829 hx Bd.returns rfl (Or.inl ⟨rfl, by simp, _, rfl⟩) (hb hby dm5_31) (by rw [K829]; exact ⟨rfl, N830, rfl⟩) (by decide) (by decide)

theorem ef_rm_law (m : MethodId) (G1 : Int32) (G3 : Value) (sp : Int32) (qc : Int32) (mc : Int32)  : entryFrame m #[(.int sp), (.int qc), (.int mc)] maxLocals = mkF m 0 #[.val (.int sp), .val (.int qc), .val (.int mc), .unset, .unset, .unset, .unset, .unset, .unset, .unset, .unset, .unset, .unset, .unset] [] := by  first | (simp [entryFrame, mkF, argsToLocals, Value.category, maxLocals]; done) | rfl
def Q_rm_law (Z : State) (G1 : Int32) (G3 : Value) (sp : Int32) (qc : Int32) (mc : Int32) (h0 : Heap) (n0 : Nat) (v : Option Value) (h : Heap) (vm : Vm) (L : List Loc) : Prop := (v = some (.int (1 : Int32))) ∧ (Fr n0 L) ∧ (Keep h0 h []) ∧ (IB Z vm ([""] : List String))
theorem pd__I_C_CZ_Ljava_lang_String_ : parseMethodDescriptor "(I[C[CZ)Ljava/lang/String;" = some ⟨[.int, (.array .char), (.array .char), .boolean], (some (.object "java/lang/String"))⟩ := by decide +kernel
theorem pd__ZZLjava_lang_String__V : parseMethodDescriptor "(ZZLjava/lang/String;)V" = some ⟨[.boolean, .boolean, (.object "java/lang/String")], none⟩ := by decide +kernel
theorem pd__Ljava_lang_String__Ljava_lang_String_ : parseMethodDescriptor "(Ljava/lang/String;)Ljava/lang/String;" = some ⟨[(.object "java/lang/String")], (some (.object "java/lang/String"))⟩ := by decide +kernel
theorem pd__Ljava_lang_String_IIII_C_C_Z : parseMethodDescriptor "(Ljava/lang/String;IIII[C[C)Z" = some ⟨[(.object "java/lang/String"), .int, .int, .int, .int, (.array .char), (.array .char)], (some .boolean)⟩ := by decide +kernel
set_option maxRecDepth 65536 in
set_option maxHeartbeats 40000000 in
theorem rm_law (l : Launch) (Z : State) (a0 : Array Value) (hw : ∀ d ∈ tables_1, d.before a0 Z = true) (ws : List Jvm.Cond) (G1 : Int32) (G3 : Value) (sp : Int32) (qc : Int32) (mc : Int32) (h0 : Heap) (n0 : Nat) (Z0 : n0 ≤ h0.size) (O2 : Sta Z Z.heap "java/lang/String" "COMPACT_STRINGS" "Z" (.int G1)) (P5 : ¬ G1 = 0) (O4 : Sta Z Z.heap "jdk/internal/util/Preconditions" "SIOOBE_FORMATTER" "Ljava/util/function/BiFunction;" G3) (rG3 : G3.isRef = true) (H32 : Jvm.Lit.constHeld Z "com/example/alcance/alcance/IdentifiersQuotedPinLaw" 32) (hcw : Jvm.Lit.compactW.before a0 Z = true) (Old0 : OldL Z n0 h0) :
    MetFree l x (head1 (Jvm.Cond.code x code maxLocals ret :: ws) room_1) (fun a U => a = #[(.int sp), (.int qc), (.int mc)] ∧ Z.Warmed39 U.vm ∧ U.heap = h0 ∧ IB Z U.vm ([] : List String)) (fun _ _ _ _ _ => True) (fun _ U o U' => ∃ v L, o = .returned v ∧ Q_rm_law Z G1 G3 sp qc mc h0 n0 v U'.heap U'.vm L ∧ ReturnedEndW U o U' L 40 1216) := by
 refine MetFree.of_bodySF (plainFor_of_name pn_com_example_alcance_alcance_IdentifiersQuotedPinLaw) hisR ?_
 intro p e s m args below meth c s₁ Bd hml0 hP hK
 obtain ⟨rfl, hZ, hh, hI⟩ := hP
 have hx := Bd.exec
 have hby := Bd.bytes
 have hml : c.maxLocals = 14 := hml0
 have hown : s.vm.findClass "com/example/alcance/alcance/IdentifiersQuotedPinLaw" = some m.cls := findClass_of_methodNamed Bd.named
 have hnm := (name_of_methodNamed Bd.named Bd.method).1
 have X0 : Stand p l e room_1 (s.setVm s.vm) m #[(.int sp), (.int qc), (.int mc)] below meth c s₁ [] 0 0 := Stand.of_body Bd
 have e0 : s₁.heap = h0 := by rw [← hh, Bd.state]; rfl
 have N0 := Fr.nil n0
 have K00 : Keep h0 h0 [] := Keep.refl _ _
 have hS0 : s.Since s.vm s.heap.size := (State.WarmedH.refl s).since _
 have hk0 : s.heap.size ≤ h0.size := by rw [hh]; exact Nat.le_refl _
 have hkeep : ∀ (b : Addr) (cl : Cell), Z.heap[b]? = some cl → s.heap[b]? = some cl := by rw [hh]; exact Old0.2.2
 show Rch p e below s₁ (entryFrame m #[(.int sp), (.int qc), (.int mc)] maxLocals) (FinW s (Q_rm_law Z G1 G3 sp qc mc h0 n0) 40 1216)
 refine Rch.cast (ef_rm_law m G1 G3 sp qc mc) ?_
 have Z0f := Nat.le_refl h0.size
 have N0f := Fr.nil h0.size
 have OldF := Old0.up Z0
 show Rch p e below s₁ (mkF m 0 #[.val (.int sp), .val (.int qc), .val (.int mc), .unset, .unset, .unset, .unset, .unset, .unset, .unset, .unset, .unset, .unset, .unset] []) _
 refine w_iloadN (pc' := 1) X0 hx hby at_0 rfl rfl ?_
 refine w_iconst (pc' := 2) (v := 1) X0 hx hby at_1 rfl rfl ?_
 refine w_iand (pc' := 3) X0 hx hby at_2 rfl ?_
 have Jlb : ∀ (lb : Int32), (lb = 0 ∨ lb = 1) →  Rch p e below s₁ (mkF m 11 #[.val (.int sp), .val (.int qc), .val (.int mc), .unset, .unset, .unset, .unset, .unset, .unset, .unset, .unset, .unset, .unset, .unset] [(.int lb)]) (FinW s (Q_rm_law Z G1 G3 sp qc mc h0 n0) 40 1216) := by
  intro lb hlb
  refine w_istoreN (pc' := 12) (l' := #[.val (.int sp), .val (.int qc), .val (.int mc), .val (.int lb), .unset, .unset, .unset, .unset, .unset, .unset, .unset, .unset, .unset, .unset]) X0 hx hby at_11 rfl rfl ?_
  refine w_iloadN (pc' := 13) X0 hx hby at_12 rfl rfl ?_
  refine w_iconst (pc' := 14) (v := 2) X0 hx hby at_13 rfl rfl ?_
  refine w_iand (pc' := 15) X0 hx hby at_14 rfl ?_
  have Jlq : ∀ (lq : Int32), (lq = 0 ∨ lq = 1) →  Rch p e below s₁ (mkF m 23 #[.val (.int sp), .val (.int qc), .val (.int mc), .val (.int lb), .unset, .unset, .unset, .unset, .unset, .unset, .unset, .unset, .unset, .unset] [(.int lq)]) (FinW s (Q_rm_law Z G1 G3 sp qc mc h0 n0) 40 1216) := by
   intro lq hlq
   refine w_istore (pc' := 25) (l' := #[.val (.int sp), .val (.int qc), .val (.int mc), .val (.int lb), .val (.int lq), .unset, .unset, .unset, .unset, .unset, .unset, .unset, .unset, .unset]) X0 hx hby at_23 rfl rfl ?_
   refine w_iloadN (pc' := 26) X0 hx hby at_25 rfl rfl ?_
   refine w_iconst (pc' := 27) (v := 2) X0 hx hby at_26 rfl rfl ?_
   refine w_iushr (pc' := 28) X0 hx hby at_27 rfl ?_
   refine w_iconst (pc' := 29) (v := 3) X0 hx hby at_28 rfl rfl ?_
   refine w_iand (pc' := 30) X0 hx hby at_29 rfl ?_
   refine w_iconst (pc' := 31) (v := 3) X0 hx hby at_30 rfl rfl ?_
   refine w_irem (pc' := 32) X0 hx hby at_31 (by decide) rfl ?_
   obtain ⟨ql, hql⟩ : ∃ z, z = (((XT.ushr sp (2 : Int32)) &&& (3 : Int32)) % (3 : Int32)) := ⟨_, rfl⟩
   rw [← hql]
   show Rch p e below s₁ (mkF m 32 #[.val (.int sp), .val (.int qc), .val (.int mc), .val (.int lb), .val (.int lq), .unset, .unset, .unset, .unset, .unset, .unset, .unset, .unset, .unset] [(.int ql)]) _
   refine w_istore (pc' := 34) (l' := #[.val (.int sp), .val (.int qc), .val (.int mc), .val (.int lb), .val (.int lq), .val (.int ql), .unset, .unset, .unset, .unset, .unset, .unset, .unset, .unset]) X0 hx hby at_32 rfl rfl ?_
   refine w_iloadN (pc' := 35) X0 hx hby at_34 rfl rfl ?_
   refine w_iconst (pc' := 36) (v := 4) X0 hx hby at_35 rfl rfl ?_
   refine w_iushr (pc' := 37) X0 hx hby at_36 rfl ?_
   refine w_iconst (pc' := 38) (v := 3) X0 hx hby at_37 rfl rfl ?_
   refine w_iand (pc' := 39) X0 hx hby at_38 rfl ?_
   obtain ⟨nl, hnl⟩ : ∃ z, z = ((XT.ushr sp (4 : Int32)) &&& (3 : Int32)) := ⟨_, rfl⟩
   rw [← hnl]
   show Rch p e below s₁ (mkF m 39 #[.val (.int sp), .val (.int qc), .val (.int mc), .val (.int lb), .val (.int lq), .val (.int ql), .unset, .unset, .unset, .unset, .unset, .unset, .unset, .unset] [(.int nl)]) _
   refine w_istore (pc' := 41) (l' := #[.val (.int sp), .val (.int qc), .val (.int mc), .val (.int lb), .val (.int lq), .val (.int ql), .val (.int nl), .unset, .unset, .unset, .unset, .unset, .unset, .unset]) X0 hx hby at_39 rfl rfl ?_
   refine w_iconst (pc' := 42) (v := 2) X0 hx hby at_41 rfl rfl ?_
   obtain ⟨T831, h831, kc831, X831, e831, E831, A831, st831⟩ := newP X0 hx hZ (wi hw 0 rfl) e0 (g := (mkF m 42 #[.val (.int sp), .val (.int qc), .val (.int mc), .val (.int lb), .val (.int lq), .val (.int ql), .val (.int nl), .unset, .unset, .unset, .unset, .unset, .unset, .unset] [(.int 2)])) rfl (hb hby at_42) rfl (by decide : ¬ ((2 : Int32) < (0 : Int32))) (cap := 2) (by decide : (2 : Int32).toNatClampNeg ≤ 2) (by decide) (by decide) (by decide)
   obtain ⟨a831, g831⟩ : ∃ z, z = h0.size := ⟨_, rfl⟩
   rw [← g831] at A831 st831
   have ge832 : h0.size ≤ a831 := Nat.le_trans Z0f (Nat.le_of_eq g831.symm)
   have hk834 := Nat.le_trans hk0 E831.1
   have Old835 := OldF.ext E831
   have Z836 := Nat.le_trans Z0f E831.1
   have Kp837 : Keep h0 h831 [] := K00.ext E831
   have f838 : Arv Z h831 a831 kc831 .char (2 : Int32) [(.int (0 : Int32)), (.int (0 : Int32))] (.int (0 : Int32)) := (Arv.new A831 (by decide : ¬ ((2 : Int32) < (0 : Int32)))).pad (pad_rep [] (.int (0 : Int32)) 2)
   refine Rch.st (fun _ k => st831 _ k) ?_
   show Rch p e below T831 (mkF m 44 #[.val (.int sp), .val (.int qc), .val (.int mc), .val (.int lb), .val (.int lq), .val (.int ql), .val (.int nl), .unset, .unset, .unset, .unset, .unset, .unset, .unset] [(.ref a831)]) _
   refine w_astore (pc' := 46) (l' := #[.val (.int sp), .val (.int qc), .val (.int mc), .val (.int lb), .val (.int lq), .val (.int ql), .val (.int nl), .val (.ref a831), .unset, .unset, .unset, .unset, .unset, .unset]) X831 hx hby at_44 rfl rfl rfl ?_
   refine w_aload (pc' := 48) X831 hx hby at_46 rfl rfl rfl ?_
   refine w_iconst (pc' := 49) (v := 0) X831 hx hby at_48 rfl rfl ?_
   refine w_iloadN (pc' := 50) X831 hx hby at_49 rfl rfl ?_
   refine w_sipush (pc' := 53) (v := 255) X831 hx hby at_50 rfl rfl ?_
   refine w_iand (pc' := 54) X831 hx hby at_53 rfl ?_
   refine w_i2c (pc' := 55) X831 hx hby at_54 rfl ?_
   have ch_qa := own_ch8 qc
   obtain ⟨qa, hv_qa⟩ : ∃ z, z = (nar .char (qc &&& (255 : Int32))) := ⟨_, rfl⟩
   rw [← hv_qa]
   show Rch p e below T831 (mkF m 55 #[.val (.int sp), .val (.int qc), .val (.int mc), .val (.int lb), .val (.int lq), .val (.int ql), .val (.int nl), .val (.ref a831), .unset, .unset, .unset, .unset, .unset, .unset] [(.int qa), (.int 0), (.ref a831)]) _
   rw [← hv_qa] at ch_qa
   obtain ⟨T839, h839, X839, e839, W839, V839, st839⟩ := own_stC X831 hx hZ e831 f838 (j := (0 : Int32)) ⟨by decide, by decide⟩ 0 (by decide) (by decide : 0 < 2) (g := (mkF m 55 #[.val (.int sp), .val (.int qc), .val (.int mc), .val (.int lb), .val (.int lq), .val (.int ql), .val (.int nl), .val (.ref a831), .unset, .unset, .unset, .unset, .unset, .unset] [(.int qa), (.int 0), (.ref a831)])) rfl rfl (hb hby at_55)
   have N840 := Fr.snoc X839 N0f ge832
   have Old841 := Old835.wr W839 ge832
   have Z842 := Nat.le_trans Z836 (Keep.of_wr W839).1
   have hk843 := Nat.le_trans hk834 (Keep.of_wr W839).1
   have Kp844 : Keep h0 h839 [] := Kp837.wr W839 (Or.inr (Nat.le_trans K00.1 (Nat.le_of_eq g831.symm)))
   have f845 : Arv Z h839 a831 kc831 .char (2 : Int32) [(.int (nar .char qa)), (.int (0 : Int32))] (.int (0 : Int32)) := V839
   refine Rch.st (fun _ k => st839 _ k) ?_
   show Rch p e below T839 (mkF m 56 #[.val (.int sp), .val (.int qc), .val (.int mc), .val (.int lb), .val (.int lq), .val (.int ql), .val (.int nl), .val (.ref a831), .unset, .unset, .unset, .unset, .unset, .unset] []) _
   refine w_aload (pc' := 58) X839 hx hby at_56 rfl rfl rfl ?_
   refine w_iconst (pc' := 59) (v := 1) X839 hx hby at_58 rfl rfl ?_
   refine w_iloadN (pc' := 60) X839 hx hby at_59 rfl rfl ?_
   refine w_bipush (pc' := 62) (v := 8) X839 hx hby at_60 rfl rfl ?_
   refine w_iushr (pc' := 63) X839 hx hby at_62 rfl ?_
   refine w_sipush (pc' := 66) (v := 255) X839 hx hby at_63 rfl rfl ?_
   refine w_iand (pc' := 67) X839 hx hby at_66 rfl ?_
   refine w_i2c (pc' := 68) X839 hx hby at_67 rfl ?_
   have ch_qb := own_ch8 (XT.ushr qc (8 : Int32))
   obtain ⟨qb, hv_qb⟩ : ∃ z, z = (nar .char ((XT.ushr qc (8 : Int32)) &&& (255 : Int32))) := ⟨_, rfl⟩
   rw [← hv_qb]
   show Rch p e below T839 (mkF m 68 #[.val (.int sp), .val (.int qc), .val (.int mc), .val (.int lb), .val (.int lq), .val (.int ql), .val (.int nl), .val (.ref a831), .unset, .unset, .unset, .unset, .unset, .unset] [(.int qb), (.int 1), (.ref a831)]) _
   rw [← hv_qb] at ch_qb
   obtain ⟨T846, h846, X846, e846, W846, V846, st846⟩ := own_stC X839 hx hZ e839 f845 (j := (1 : Int32)) ⟨by decide, by decide⟩ 1 (by decide) (by decide : 1 < 2) (g := (mkF m 68 #[.val (.int sp), .val (.int qc), .val (.int mc), .val (.int lb), .val (.int lq), .val (.int ql), .val (.int nl), .val (.ref a831), .unset, .unset, .unset, .unset, .unset, .unset] [(.int qb), (.int 1), (.ref a831)])) rfl rfl (hb hby at_68)
   have N847 := Fr.snoc X846 N840 ge832
   have Old848 := Old841.wr W846 ge832
   have Z849 := Nat.le_trans Z842 (Keep.of_wr W846).1
   have hk850 := Nat.le_trans hk843 (Keep.of_wr W846).1
   have Kp851 : Keep h0 h846 [] := Kp844.wr W846 (Or.inr (Nat.le_trans K00.1 (Nat.le_of_eq g831.symm)))
   have f852 : Arv Z h846 a831 kc831 .char (2 : Int32) [(.int (nar .char qa)), (.int (nar .char qb))] (.int (0 : Int32)) := V846
   refine Rch.st (fun _ k => st846 _ k) ?_
   show Rch p e below T846 (mkF m 69 #[.val (.int sp), .val (.int qc), .val (.int mc), .val (.int lb), .val (.int lq), .val (.int ql), .val (.int nl), .val (.ref a831), .unset, .unset, .unset, .unset, .unset, .unset] []) _
   have f853 : Arv Z h846 a831 kc831 .char (2 : Int32) [(.int qa), (.int qb)] (.int (0 : Int32)) := by have z := f852; rw [ch_qa.nr, ch_qb.nr] at z; exact z
   refine w_iconst (pc' := 70) (v := 3) X846 hx hby at_69 rfl rfl ?_
   obtain ⟨T854, h854, kc854, X854, e854, E854, A854, st854⟩ := newP X846 hx hZ (wi hw 0 rfl) e846 (g := (mkF m 70 #[.val (.int sp), .val (.int qc), .val (.int mc), .val (.int lb), .val (.int lq), .val (.int ql), .val (.int nl), .val (.ref a831), .unset, .unset, .unset, .unset, .unset, .unset] [(.int 3)])) rfl (hb hby at_70) rfl (by decide : ¬ ((3 : Int32) < (0 : Int32))) (cap := 3) (by decide : (3 : Int32).toNatClampNeg ≤ 3) (by decide) (by decide) (by decide)
   obtain ⟨a854, g854⟩ : ∃ z, z = h846.size := ⟨_, rfl⟩
   rw [← g854] at A854 st854
   have ne855 : a831 ≠ a854 := by rw [g854]; exact Nat.ne_of_lt f853.lt
   have ge856 : h0.size ≤ a854 := Nat.le_trans Z849 (Nat.le_of_eq g854.symm)
   have hk858 := Nat.le_trans hk850 E854.1
   have f859 := f853.ext E854
   have Old860 := Old848.ext E854
   have Z861 := Nat.le_trans Z849 E854.1
   have Kp862 : Keep h0 h854 [] := Kp851.ext E854
   have f863 : Arv Z h854 a854 kc854 .char (3 : Int32) [(.int (0 : Int32)), (.int (0 : Int32)), (.int (0 : Int32))] (.int (0 : Int32)) := (Arv.new A854 (by decide : ¬ ((3 : Int32) < (0 : Int32)))).pad (pad_rep [] (.int (0 : Int32)) 3)
   refine Rch.st (fun _ k => st854 _ k) ?_
   show Rch p e below T854 (mkF m 72 #[.val (.int sp), .val (.int qc), .val (.int mc), .val (.int lb), .val (.int lq), .val (.int ql), .val (.int nl), .val (.ref a831), .unset, .unset, .unset, .unset, .unset, .unset] [(.ref a854)]) _
   refine w_astore (pc' := 74) (l' := #[.val (.int sp), .val (.int qc), .val (.int mc), .val (.int lb), .val (.int lq), .val (.int ql), .val (.int nl), .val (.ref a831), .val (.ref a854), .unset, .unset, .unset, .unset, .unset]) X854 hx hby at_72 rfl rfl rfl ?_
   refine w_aload (pc' := 76) X854 hx hby at_74 rfl rfl rfl ?_
   refine w_iconst (pc' := 77) (v := 0) X854 hx hby at_76 rfl rfl ?_
   refine w_iloadN (pc' := 78) X854 hx hby at_77 rfl rfl ?_
   refine w_sipush (pc' := 81) (v := 255) X854 hx hby at_78 rfl rfl ?_
   refine w_iand (pc' := 82) X854 hx hby at_81 rfl ?_
   refine w_i2c (pc' := 83) X854 hx hby at_82 rfl ?_
   have ch_na := own_ch8 mc
   obtain ⟨na, hv_na⟩ : ∃ z, z = (nar .char (mc &&& (255 : Int32))) := ⟨_, rfl⟩
   rw [← hv_na]
   show Rch p e below T854 (mkF m 83 #[.val (.int sp), .val (.int qc), .val (.int mc), .val (.int lb), .val (.int lq), .val (.int ql), .val (.int nl), .val (.ref a831), .val (.ref a854), .unset, .unset, .unset, .unset, .unset] [(.int na), (.int 0), (.ref a854)]) _
   rw [← hv_na] at ch_na
   obtain ⟨T864, h864, X864, e864, W864, V864, st864⟩ := own_stC X854 hx hZ e854 f863 (j := (0 : Int32)) ⟨by decide, by decide⟩ 0 (by decide) (by decide : 0 < 3) (g := (mkF m 83 #[.val (.int sp), .val (.int qc), .val (.int mc), .val (.int lb), .val (.int lq), .val (.int ql), .val (.int nl), .val (.ref a831), .val (.ref a854), .unset, .unset, .unset, .unset, .unset] [(.int na), (.int 0), (.ref a854)])) rfl rfl (hb hby at_83)
   have N865 := Fr.snoc X864 N847 ge856
   have f866 := f859.other W864 ne855
   have Old867 := Old860.wr W864 ge856
   have Z868 := Nat.le_trans Z861 (Keep.of_wr W864).1
   have hk869 := Nat.le_trans hk858 (Keep.of_wr W864).1
   have Kp870 : Keep h0 h864 [] := Kp862.wr W864 (Or.inr (Nat.le_trans Kp851.1 (Nat.le_of_eq g854.symm)))
   have f871 : Arv Z h864 a854 kc854 .char (3 : Int32) [(.int (nar .char na)), (.int (0 : Int32)), (.int (0 : Int32))] (.int (0 : Int32)) := V864
   refine Rch.st (fun _ k => st864 _ k) ?_
   show Rch p e below T864 (mkF m 84 #[.val (.int sp), .val (.int qc), .val (.int mc), .val (.int lb), .val (.int lq), .val (.int ql), .val (.int nl), .val (.ref a831), .val (.ref a854), .unset, .unset, .unset, .unset, .unset] []) _
   refine w_aload (pc' := 86) X864 hx hby at_84 rfl rfl rfl ?_
   refine w_iconst (pc' := 87) (v := 1) X864 hx hby at_86 rfl rfl ?_
   refine w_iloadN (pc' := 88) X864 hx hby at_87 rfl rfl ?_
   refine w_bipush (pc' := 90) (v := 8) X864 hx hby at_88 rfl rfl ?_
   refine w_iushr (pc' := 91) X864 hx hby at_90 rfl ?_
   refine w_sipush (pc' := 94) (v := 255) X864 hx hby at_91 rfl rfl ?_
   refine w_iand (pc' := 95) X864 hx hby at_94 rfl ?_
   refine w_i2c (pc' := 96) X864 hx hby at_95 rfl ?_
   have ch_nb := own_ch8 (XT.ushr mc (8 : Int32))
   obtain ⟨nb, hv_nb⟩ : ∃ z, z = (nar .char ((XT.ushr mc (8 : Int32)) &&& (255 : Int32))) := ⟨_, rfl⟩
   rw [← hv_nb]
   show Rch p e below T864 (mkF m 96 #[.val (.int sp), .val (.int qc), .val (.int mc), .val (.int lb), .val (.int lq), .val (.int ql), .val (.int nl), .val (.ref a831), .val (.ref a854), .unset, .unset, .unset, .unset, .unset] [(.int nb), (.int 1), (.ref a854)]) _
   rw [← hv_nb] at ch_nb
   obtain ⟨T872, h872, X872, e872, W872, V872, st872⟩ := own_stC X864 hx hZ e864 f871 (j := (1 : Int32)) ⟨by decide, by decide⟩ 1 (by decide) (by decide : 1 < 3) (g := (mkF m 96 #[.val (.int sp), .val (.int qc), .val (.int mc), .val (.int lb), .val (.int lq), .val (.int ql), .val (.int nl), .val (.ref a831), .val (.ref a854), .unset, .unset, .unset, .unset, .unset] [(.int nb), (.int 1), (.ref a854)])) rfl rfl (hb hby at_96)
   have N873 := Fr.snoc X872 N865 ge856
   have f874 := f866.other W872 ne855
   have Old875 := Old867.wr W872 ge856
   have Z876 := Nat.le_trans Z868 (Keep.of_wr W872).1
   have hk877 := Nat.le_trans hk869 (Keep.of_wr W872).1
   have Kp878 : Keep h0 h872 [] := Kp870.wr W872 (Or.inr (Nat.le_trans Kp851.1 (Nat.le_of_eq g854.symm)))
   have f879 : Arv Z h872 a854 kc854 .char (3 : Int32) [(.int (nar .char na)), (.int (nar .char nb)), (.int (0 : Int32))] (.int (0 : Int32)) := V872
   refine Rch.st (fun _ k => st872 _ k) ?_
   show Rch p e below T872 (mkF m 97 #[.val (.int sp), .val (.int qc), .val (.int mc), .val (.int lb), .val (.int lq), .val (.int ql), .val (.int nl), .val (.ref a831), .val (.ref a854), .unset, .unset, .unset, .unset, .unset] []) _
   refine w_aload (pc' := 99) X872 hx hby at_97 rfl rfl rfl ?_
   refine w_iconst (pc' := 100) (v := 2) X872 hx hby at_99 rfl rfl ?_
   refine w_iloadN (pc' := 101) X872 hx hby at_100 rfl rfl ?_
   refine w_bipush (pc' := 103) (v := 16) X872 hx hby at_101 rfl rfl ?_
   refine w_iushr (pc' := 104) X872 hx hby at_103 rfl ?_
   refine w_sipush (pc' := 107) (v := 255) X872 hx hby at_104 rfl rfl ?_
   refine w_iand (pc' := 108) X872 hx hby at_107 rfl ?_
   refine w_i2c (pc' := 109) X872 hx hby at_108 rfl ?_
   have ch_nc := own_ch8 (XT.ushr mc (16 : Int32))
   obtain ⟨nc, hv_nc⟩ : ∃ z, z = (nar .char ((XT.ushr mc (16 : Int32)) &&& (255 : Int32))) := ⟨_, rfl⟩
   rw [← hv_nc]
   show Rch p e below T872 (mkF m 109 #[.val (.int sp), .val (.int qc), .val (.int mc), .val (.int lb), .val (.int lq), .val (.int ql), .val (.int nl), .val (.ref a831), .val (.ref a854), .unset, .unset, .unset, .unset, .unset] [(.int nc), (.int 2), (.ref a854)]) _
   rw [← hv_nc] at ch_nc
   obtain ⟨T880, h880, X880, e880, W880, V880, st880⟩ := own_stC X872 hx hZ e872 f879 (j := (2 : Int32)) ⟨by decide, by decide⟩ 2 (by decide) (by decide : 2 < 3) (g := (mkF m 109 #[.val (.int sp), .val (.int qc), .val (.int mc), .val (.int lb), .val (.int lq), .val (.int ql), .val (.int nl), .val (.ref a831), .val (.ref a854), .unset, .unset, .unset, .unset, .unset] [(.int nc), (.int 2), (.ref a854)])) rfl rfl (hb hby at_109)
   have N881 := Fr.snoc X880 N873 ge856
   have f882 := f874.other W880 ne855
   have Old883 := Old875.wr W880 ge856
   have Z884 := Nat.le_trans Z876 (Keep.of_wr W880).1
   have hk885 := Nat.le_trans hk877 (Keep.of_wr W880).1
   have Kp886 : Keep h0 h880 [] := Kp878.wr W880 (Or.inr (Nat.le_trans Kp851.1 (Nat.le_of_eq g854.symm)))
   have f887 : Arv Z h880 a854 kc854 .char (3 : Int32) [(.int (nar .char na)), (.int (nar .char nb)), (.int (nar .char nc))] (.int (0 : Int32)) := V880
   refine Rch.st (fun _ k => st880 _ k) ?_
   show Rch p e below T880 (mkF m 110 #[.val (.int sp), .val (.int qc), .val (.int mc), .val (.int lb), .val (.int lq), .val (.int ql), .val (.int nl), .val (.ref a831), .val (.ref a854), .unset, .unset, .unset, .unset, .unset] []) _
   have f888 : Arv Z h880 a854 kc854 .char (3 : Int32) [(.int na), (.int nb), (.int nc)] (.int (0 : Int32)) := by have z := f887; rw [ch_na.nr, ch_nb.nr, ch_nc.nr] at z; exact z
   refine w_iload (pc' := 112) X880 hx hby at_110 rfl rfl ?_
   refine w_aload (pc' := 114) X880 hx hby at_112 rfl rfl rfl ?_
   refine w_aload (pc' := 116) X880 hx hby at_114 rfl rfl rfl ?_
   refine w_iconst (pc' := 117) (v := 1) X880 hx hby at_116 rfl rfl ?_
   rcases (hql ▸ own_rem3 _ : ql = 0 ∨ ql = 1 ∨ ql = 2) with rfl | rfl | rfl
   ·skip
    show Rch p e below T880 (mkF m 117 #[.val (.int sp), .val (.int qc), .val (.int mc), .val (.int lb), .val (.int lq), .val (.int 0), .val (.int nl), .val (.ref a831), .val (.ref a854), .unset, .unset, .unset, .unset, .unset] [(.int 1), (.ref a854), (.ref a831), (.int 0)]) _
    obtain ⟨_, _, ⟨T889, L889, k889, n889⟩, -, X889, hSx889, hgx889, ⟨Lc889, hQ889, l889, y889, z889⟩, st889⟩ := callSS X880 hx (y := (⟨"com/example/alcance/alcance/IdentifiersQuotedPinLaw", "make", "(I[C[CZ)Ljava/lang/String;"⟩ : MethodName)) hown (mvT hZ (wi hw 1 rfl)) (mvT hZ (wi hw 2 rfl)) (mvT hZ (wi hw 3 rfl)) (mvT hZ (wi hw 4 rfl)) (by decide) (backOfV (PV := fun vm => IB Z vm ([] : List String)) (W := 0) (rm_mk_1_0 l Z a0 hw [] a831 a854 h880 h0.size Z884 (H32) (hcw) Old883) hZ (fun vm hW => own_ib (s := s.setVm s.vm) hI hW) (wi hw 4 rfl) (wi hw 3 rfl) (by decide) (by decide)) (g := (mkF m 117 #[.val (.int sp), .val (.int qc), .val (.int mc), .val (.int lb), .val (.int lq), .val (.int 0), .val (.int nl), .val (.ref a831), .val (.ref a854), .unset, .unset, .unset, .unset, .unset] [(.int 1), (.ref a854), (.ref a831), (.int 0)])) rfl (by rw [hml]; rfl) (argsL := [(.int 0), (.ref a831), (.ref a854), (.int 1)]) (rest := []) (lenOf pd__I_C_CZ_Ljava_lang_String_ rfl) rfl (by show 2 * 0 + _ ≤ _; exact Nat.le_of_eq rfl) (hb hby at_117) (fun _ _ => ⟨rfl, e880, (by decide : 2 + 2 ≤ _), (by decide : 5 + 4 ≤ _)⟩)
    dsimp only [Pt.U, Pt.locs, Pt.cells, Pt.slots] at X889 l889 y889 z889 st889 hQ889 hSx889 hgx889
    subst l889 y889 z889
    have hS889 := foldS hS0 (by rw [e880]; exact hk885) hSx889 hgx889
    have hk889 : T889.heap.size ≤ T889.heap.size := Nat.le_refl _
    have hZ889 : Z.Warmed39 (s.setVm T889.vm).vm := State.Warmed39.trans (t := s.setVm s.vm) hZ hSx889.1
    have hown889 : (s.setVm T889.vm).vm.findClass "com/example/alcance/alcance/IdentifiersQuotedPinLaw" = some m.cls := by rw [show (s.setVm T889.vm).vm = T889.vm from rfl, hSx889.1.alike.findClass]; exact hown
    have X889w : Stand p l e room_1 (s.setVm T889.vm) m _ below meth c T889 _ _ _ := X889
    obtain ⟨ra_889, t_889, kt_889, rfl, NQ889, K889, fq889_0, fq889_1, fq889_2, fq889_3, IQ889, LQ889_0⟩ := hQ889
    have N890 := Fr.app N881 NQ889
    have f891 := f882.keep K889 nin0
    have f892 := f888.keep K889 nin0
    have Old893 := Old883.keep K889 all0
    have Kp894 : Keep h0 T889.heap [] := Kp886.trans K889 all0
    have Z895 := Nat.le_trans Z884 K889.1
    refine Rch.st (fun _ k => st889.trans k) ?_
    show Rch p e below T889 (mkF m 120 #[.val (.int sp), .val (.int qc), .val (.int mc), .val (.int lb), .val (.int lq), .val (.int 0), .val (.int nl), .val (.ref a831), .val (.ref a854), .unset, .unset, .unset, .unset, .unset] [(.ref ra_889)]) _
    refine w_astore (pc' := 122) (l' := #[.val (.int sp), .val (.int qc), .val (.int mc), .val (.int lb), .val (.int lq), .val (.int 0), .val (.int nl), .val (.ref a831), .val (.ref a854), .val (.ref ra_889), .unset, .unset, .unset, .unset]) X889w hx hby at_120 rfl rfl rfl ?_
    refine w_iload (pc' := 124) X889w hx hby at_122 rfl rfl ?_
    refine w_aload (pc' := 126) X889w hx hby at_124 rfl rfl rfl ?_
    refine w_aload (pc' := 128) X889w hx hby at_126 rfl rfl rfl ?_
    refine w_iconst (pc' := 129) (v := 0) X889w hx hby at_128 rfl rfl ?_
    rcases (hnl ▸ own_and3 _ : nl = 0 ∨ nl = 1 ∨ nl = 2 ∨ nl = 3) with rfl | rfl | rfl | rfl
    ·skip
     show Rch p e below T889 (mkF m 129 #[.val (.int sp), .val (.int qc), .val (.int mc), .val (.int lb), .val (.int lq), .val (.int 0), .val (.int 0), .val (.ref a831), .val (.ref a854), .val (.ref ra_889), .unset, .unset, .unset, .unset] [(.int 0), (.ref a854), (.ref a831), (.int 0)]) _
     obtain ⟨_, _, ⟨T896, L896, k896, n896⟩, -, X896, hSx896, hgx896, ⟨Lc896, hQ896, l896, y896, z896⟩, st896⟩ := callSS X889w hx (y := (⟨"com/example/alcance/alcance/IdentifiersQuotedPinLaw", "make", "(I[C[CZ)Ljava/lang/String;"⟩ : MethodName)) hown889 (mvT hZ889 (wi hw 1 rfl)) (mvT hZ889 (wi hw 2 rfl)) (mvT hZ889 (wi hw 3 rfl)) (mvT hZ889 (wi hw 4 rfl)) (by decide) (backOfV (PV := fun vm => IB Z vm ([""] : List String) ∧ Lit (Z.setVm vm) "com/example/alcance/alcance/IdentifiersQuotedPinLaw" 32 ra_889) (W := 0) (rm_mk_again l Z a0 hw [] a831 a854 ra_889 T889.heap h0.size Z895 Old893) hZ889 (fun vm hW => ⟨own_ib (s := s.setVm T889.vm) IQ889 hW, own_lit (s := s) (vm := T889.vm) LQ889_0 hW.wide⟩) (wi hw 4 rfl) (wi hw 3 rfl) (by decide) (by decide)) (g := (mkF m 129 #[.val (.int sp), .val (.int qc), .val (.int mc), .val (.int lb), .val (.int lq), .val (.int 0), .val (.int 0), .val (.ref a831), .val (.ref a854), .val (.ref ra_889), .unset, .unset, .unset, .unset] [(.int 0), (.ref a854), (.ref a831), (.int 0)])) rfl (by rw [hml]; rfl) (argsL := [(.int 0), (.ref a831), (.ref a854), (.int 0)]) (rest := []) (lenOf pd__I_C_CZ_Ljava_lang_String_ rfl) rfl (by show 2 * 0 + _ ≤ _; exact Nat.le_of_eq rfl) (hb hby at_129) (fun _ _ => ⟨rfl, (rfl : T889.heap = T889.heap), (by decide : 4 + 0 ≤ _), (by decide : 9 + 0 ≤ _)⟩)
     dsimp only [Pt.U, Pt.locs, Pt.cells, Pt.slots] at X896 l896 y896 z896 st896 hQ896 hSx896 hgx896
     subst l896 y896 z896
     have hS896 := foldS hS889 (by rw [(rfl : T889.heap = T889.heap)]; exact hk889) hSx896 hgx896
     have hZ896 : Z.Warmed39 (s.setVm T896.vm).vm := State.Warmed39.trans (t := s.setVm T889.vm) hZ889 hSx896.1
     have hown896 : (s.setVm T896.vm).vm.findClass "com/example/alcance/alcance/IdentifiersQuotedPinLaw" = some m.cls := by rw [show (s.setVm T896.vm).vm = T896.vm from rfl, hSx896.1.alike.findClass]; exact hown889
     have X896w : Stand p l e room_1 (s.setVm T896.vm) m _ below meth c T896 _ _ _ := X896
     obtain ⟨rfl, NQ896, K896, IQ896, LQ896_0⟩ := hQ896
     have N897 := Fr.app N890 NQ896
     refine Rch.st (fun _ k => st896.trans k) ?_
     show Rch p e below T896 (mkF m 132 #[.val (.int sp), .val (.int qc), .val (.int mc), .val (.int lb), .val (.int lq), .val (.int 0), .val (.int 0), .val (.ref a831), .val (.ref a854), .val (.ref ra_889), .unset, .unset, .unset, .unset] [(.ref ra_889)]) _
     refine w_astore (pc' := 134) (l' := #[.val (.int sp), .val (.int qc), .val (.int mc), .val (.int lb), .val (.int lq), .val (.int 0), .val (.int 0), .val (.ref a831), .val (.ref a854), .val (.ref ra_889), .val (.ref ra_889), .unset, .unset, .unset]) X896w hx hby at_132 rfl rfl rfl ?_
     obtain ⟨T898, h898, X898, e898, E898, A898, D898, -, st898⟩ := newO X896w hx hZ896 hown896 (wi hw 13 rfl) (wi hw 14 rfl) (wi hw 15 rfl) K896 (g := (mkF m 134 #[.val (.int sp), .val (.int qc), .val (.int mc), .val (.int lb), .val (.int lq), .val (.int 0), .val (.int 0), .val (.ref a831), .val (.ref a854), .val (.ref ra_889), .val (.ref ra_889), .unset, .unset, .unset] [])) rfl (hb hby at_134) (by decide) (by decide)
     obtain ⟨a898, g898⟩ : ∃ z, z = T889.heap.size := ⟨_, rfl⟩
     rw [← g898] at A898 D898 st898
     have ne901 : ra_889 ≠ a898 := by rw [g898]; exact Nat.ne_of_lt fq889_0.lt
     have ne902 : t_889 ≠ a898 := by rw [g898]; exact Nat.ne_of_lt fq889_3.lt
     have ge903 : h0.size ≤ a898 := Nat.le_trans Z895 (Nat.le_of_eq g898.symm)
     have hk905 := Nat.le_trans (Nat.le_of_eq (congrArg Array.size K896)) E898.1
     have f908 := fq889_0.ext E898
     have f909 := fq889_1.ext E898
     have f910 := fq889_2.ext E898
     have f911 := fq889_3.ext E898
     have Old912 := Old893.ext E898
     have Z913 := Nat.le_trans Z895 E898.1
     have Kp914 : Keep h0 h898 [] := Kp894.ext E898
     have f915 : Fld Z h898 a898 "com/example/alcance/alcance/Identifiers" "lowersBare" "Z" (.int (0 : Int32)) := D898 (Or.inr (wi hw 28 rfl)) (ty := .boolean) (by decide)
     have f916 : Fld Z h898 a898 "com/example/alcance/alcance/Identifiers" "lowersQuoted" "Z" (.int (0 : Int32)) := D898 (Or.inr (wi hw 30 rfl)) (ty := .boolean) (by decide)
     have f917 : Fld Z h898 a898 "com/example/alcance/alcance/Identifiers" "quote" "Ljava/lang/String;" .null := D898 (Or.inr (wi hw 32 rfl)) (ty := (.object "java/lang/String")) (by decide)
     refine Rch.st (fun _ k => st898 _ k) ?_
     show Rch p e below T898 (mkF m 137 #[.val (.int sp), .val (.int qc), .val (.int mc), .val (.int lb), .val (.int lq), .val (.int 0), .val (.int 0), .val (.ref a831), .val (.ref a854), .val (.ref ra_889), .val (.ref ra_889), .unset, .unset, .unset] [(.ref a898)]) _
     refine w_dup (pc' := 138) X898 hx hby at_137 rfl rfl ?_
     refine w_iloadN (pc' := 139) X898 hx hby at_138 rfl rfl ?_
     refine w_iload (pc' := 141) X898 hx hby at_139 rfl rfl ?_
     refine w_aload (pc' := 143) X898 hx hby at_141 rfl rfl rfl ?_
     obtain ⟨_, _, ⟨T918, L918, k918, n918⟩, -, X918, ⟨Lc918, hQ918, l918, y918, z918⟩, st918⟩ := X898.specialBack hx (y := (⟨"com/example/alcance/alcance/Identifiers", "<init>", "(ZZLjava/lang/String;)V"⟩ : MethodName)) rfl hown896 (mvT hZ896 (wi hw 16 rfl)) (mvT hZ896 (wi hw 17 rfl)) (mvT hZ896 (wi hw 18 rfl)) (by decide) (backOf (W := 1) (rm_id l Z a0 hw [] a898 lb lq ra_889 h898 h0.size Z913 A898 f915 f916 f917 (ge903) (hlb) (hlq)) hZ896 (wi hw 18 rfl) (wi hw 15 rfl) (by decide) (by decide)) (g := (mkF m 143 #[.val (.int sp), .val (.int qc), .val (.int mc), .val (.int lb), .val (.int lq), .val (.int 0), .val (.int 0), .val (.ref a831), .val (.ref a854), .val (.ref ra_889), .val (.ref ra_889), .unset, .unset, .unset] [(.ref ra_889), (.int lq), (.int lb), (.ref a898), (.ref a898)])) rfl (by rw [hml]; rfl) (Steps.refl _) (a := a898) (argsL := [(.int lb), (.int lq), (.ref ra_889)]) (rest := [(.ref a898)]) (lenOf pd__ZZLjava_lang_String__V rfl) rfl (by show 2 * 0 + _ ≤ _; exact Nat.le_of_eq rfl) (hb hby at_143) (fun _ _ => ⟨rfl, e898, (by decide : 5 + 0 ≤ _), (by decide : 12 + 0 ≤ _)⟩)
     dsimp only [Pt.U, Pt.locs, Pt.cells, Pt.slots] at X918 l918 y918 z918 st918 hQ918
     subst l918 y918 z918
     obtain ⟨rfl, NQ918, K918, fq918_0⟩ := hQ918
     have N919 := Fr.app N897 NQ918
     have f922 := f908.keep K918
     have f923 := f909.keep K918 (ninS ne901 nin0)
     have f924 := f910.keep K918 (ninS ne901 nin0)
     have f925 := f911.keep K918 (ninS ne902 nin0)
     have f926 := A898.keep K918
     have Old927 := Old912.keep K918 (allS ge903 all0)
     have Kp928 : Keep h0 T918.heap [] := Kp914.trans K918 (allS (Or.inr (Nat.le_trans Kp894.1 (Nat.le_of_eq g898.symm))) all0)
     have Z929 := Nat.le_trans Z913 K918.1
     have hk930 := Nat.le_trans hk905 K918.1
     refine Rch.st (fun _ k => st918.trans k) ?_
     show Rch p e below T918 (mkF m 146 #[.val (.int sp), .val (.int qc), .val (.int mc), .val (.int lb), .val (.int lq), .val (.int 0), .val (.int 0), .val (.ref a831), .val (.ref a854), .val (.ref ra_889), .val (.ref ra_889), .unset, .unset, .unset] [(.ref a898)]) _
     refine w_astore (pc' := 148) (l' := #[.val (.int sp), .val (.int qc), .val (.int mc), .val (.int lb), .val (.int lq), .val (.int 0), .val (.int 0), .val (.ref a831), .val (.ref a854), .val (.ref ra_889), .val (.ref ra_889), .val (.ref a898), .unset, .unset]) X918 hx hby at_146 rfl rfl rfl ?_
     refine w_aload (pc' := 150) X918 hx hby at_148 rfl rfl rfl ?_
     refine w_aload (pc' := 152) X918 hx hby at_150 rfl rfl rfl ?_
     obtain ⟨cq931, kq931, q931a, q931b, q931c⟩ := isOf hZ896 (rfl : T918.heap = T918.heap) f926
     obtain ⟨_, _, ⟨T931, L931, k931, n931⟩, -, X931, ⟨Lc931, hQ931, l931, y931, z931⟩, st931⟩ := X918.virtualBack hx (y := (⟨"com/example/alcance/alcance/Identifiers", "quoted", "(Ljava/lang/String;)Ljava/lang/String;"⟩ : MethodName)) (z := (⟨"com/example/alcance/alcance/Identifiers", "quoted", "(Ljava/lang/String;)Ljava/lang/String;"⟩ : MethodName)) hown896 (mvT hZ896 (wi hw 33 rfl)) (mvT hZ896 (wi hw 34 rfl)) (notFace_of_selects (args := #[]) (mvT hZ896 (wi hw 36 rfl))) (mvT hZ896 (wi hw 36 rfl)) (mvT hZ896 (wi hw 35 rfl)) (by decide) (backOf (W := 0) (rm_qu l Z a0 hw [] G1 a898 ra_889 t_889 kt_889 0 ([]) (.int 0) ra_889 t_889 kt_889 0 ([]) (.int 0) T918.heap h0.size Z929 (O2) (P5) fq918_0 f922 f923 f924 f925 f922 f923 f924 f925 (by decide) (by decide) (by decide) (by decide) (by decide) (by decide) (by decide) (by decide) (by decide) (by decide) (by decide) (by decide) (by decide) (by decide) Old927) hZ896 (wi hw 37 rfl) (wi hw 15 rfl) (by decide) (by decide)) q931a q931c (g := (mkF m 152 #[.val (.int sp), .val (.int qc), .val (.int mc), .val (.int lb), .val (.int lq), .val (.int 0), .val (.int 0), .val (.ref a831), .val (.ref a854), .val (.ref ra_889), .val (.ref ra_889), .val (.ref a898), .unset, .unset] [(.ref ra_889), (.ref a898)])) rfl (by rw [hml]; rfl) (Steps.refl _) (argsL := [(.ref ra_889)]) (rest := []) (lenOf pd__Ljava_lang_String__Ljava_lang_String_ rfl) rfl (by show 2 * 0 + _ ≤ _; exact Nat.le_of_eq rfl) (hb hby at_152) (fun _ _ => ⟨rfl, (rfl : T918.heap = T918.heap), (by decide : 5 + 4 ≤ _), (by decide : 12 + 40 ≤ _)⟩)
     dsimp only [Pt.U, Pt.locs, Pt.cells, Pt.slots] at X931 l931 y931 z931 st931 hQ931
     subst l931 y931 z931
     obtain ⟨ra_931, t_931, kt_931, rfl, NQ931, K931, pq931_0, pq931_1, fq931_0, fq931_1, fq931_2, fq931_3⟩ := hQ931
     have N932 := Fr.app N919 NQ931
     have Old953 := Old927.keep K931 all0
     have Kp954 : Keep h0 T931.heap [] := Kp928.trans K931 all0
     have Z955 := Nat.le_trans Z929 K931.1
     have hk956 := Nat.le_trans hk930 K931.1
     refine Rch.st (fun _ k => st931.trans k) ?_
     show Rch p e below T931 (mkF m 155 #[.val (.int sp), .val (.int qc), .val (.int mc), .val (.int lb), .val (.int lq), .val (.int 0), .val (.int 0), .val (.ref a831), .val (.ref a854), .val (.ref ra_889), .val (.ref ra_889), .val (.ref a898), .unset, .unset] [(.ref ra_931)]) _
     have f957 : Arv Z T931.heap t_931 kt_931 .byte (0 : Int32) [] (.int (0 : Int32)) := by have z := fq931_3; rw [show ((((0 : Int32) + (0 : Int32)) + (0 : Int32)) + (0 : Int32)) = (0 : Int32) from by decide, own_cat, own_t0] at z; exact z
     refine w_astore (pc' := 157) (l' := #[.val (.int sp), .val (.int qc), .val (.int mc), .val (.int lb), .val (.int lq), .val (.int 0), .val (.int 0), .val (.ref a831), .val (.ref a854), .val (.ref ra_889), .val (.ref ra_889), .val (.ref a898), .val (.ref ra_931), .unset]) X931 hx hby at_155 rfl rfl rfl ?_
     refine w_aload (pc' := 159) X931 hx hby at_157 rfl rfl rfl ?_
     refine w_nonnullYes (pc' := 164) X931 hx hby at_159 rfl (fun q => nomatch q) (by decide) ?_
     refine w_iconst (pc' := 165) (v := 2) X931 hx hby at_164 rfl rfl ?_
     refine w_iload (pc' := 167) X931 hx hby at_165 rfl rfl ?_
     refine w_imul (pc' := 168) X931 hx hby at_167 rfl ?_
     refine w_iload (pc' := 170) X931 hx hby at_168 rfl rfl ?_
     refine w_iadd (pc' := 171) X931 hx hby at_170 rfl ?_
     have r958 : (((2 : Int32) * (0 : Int32)) + (0 : Int32)) = (0 : Int32) := by decide
     rw [r958]
     show Rch p e below T931 (mkF m 171 #[.val (.int sp), .val (.int qc), .val (.int mc), .val (.int lb), .val (.int lq), .val (.int 0), .val (.int 0), .val (.ref a831), .val (.ref a854), .val (.ref ra_889), .val (.ref ra_889), .val (.ref a898), .val (.ref ra_931), .unset] [(.int 0)]) _
     refine w_istore (pc' := 173) (l' := #[.val (.int sp), .val (.int qc), .val (.int mc), .val (.int lb), .val (.int lq), .val (.int 0), .val (.int 0), .val (.ref a831), .val (.ref a854), .val (.ref ra_889), .val (.ref ra_889), .val (.ref a898), .val (.ref ra_931), .val (.int 0)]) X931 hx hby at_171 rfl rfl ?_
     refine w_aload (pc' := 175) X931 hx hby at_173 rfl rfl rfl ?_
     obtain ⟨cq959, kq959, q959a, q959b, q959c⟩ := isOf hZ896 (rfl : T931.heap = T931.heap) fq931_0
     obtain ⟨_, _, ⟨T959, L959, k959, n959⟩, -, X959, ⟨Lc959, hQ959, l959, y959, z959⟩, st959⟩ := X931.virtualBack hx (y := (⟨"java/lang/String", "length", "()I"⟩ : MethodName)) (z := (⟨"java/lang/String", "length", "()I"⟩ : MethodName)) hown896 (mvT hZ896 (wi hw 153 rfl)) (mvT hZ896 (wi hw 67 rfl)) (notFace_of_selects (args := #[]) (mvT hZ896 (wi hw 69 rfl))) (mvT hZ896 (wi hw 69 rfl)) (mvT hZ896 (wi hw 68 rfl)) (by decide) (backOf (W := 0) (rm_length l Z a0 hw [] G1 ra_931 0 t_931 kt_931 0 ([]) (.int 0) T931.heap h0.size Z955 (O2) (P5) fq931_1 (Or.inl rfl) fq931_2 f957 fq931_0 Old953) hZ896 (wi hw 70 rfl) (wi hw 6 rfl) (by decide) (by decide)) q959a q959c (g := (mkF m 175 #[.val (.int sp), .val (.int qc), .val (.int mc), .val (.int lb), .val (.int lq), .val (.int 0), .val (.int 0), .val (.ref a831), .val (.ref a854), .val (.ref ra_889), .val (.ref ra_889), .val (.ref a898), .val (.ref ra_931), .val (.int 0)] [(.ref ra_931)])) rfl (by rw [hml]; rfl) (Steps.refl _) (argsL := []) (rest := []) (lenOf pd___I rfl) rfl (by show 2 * 0 + _ ≤ _; exact Nat.le_of_eq rfl) (hb hby at_175) (fun _ _ => ⟨rfl, (rfl : T931.heap = T931.heap), (by decide : 9 + 0 ≤ _), (by decide : 52 + 0 ≤ _)⟩)
     dsimp only [Pt.U, Pt.locs, Pt.cells, Pt.slots] at X959 l959 y959 z959 st959 hQ959
     subst l959 y959 z959
     obtain ⟨rfl, NQ959, K959⟩ := hQ959
     have N960 := Fr.app N932 NQ959
     refine Rch.st (fun _ k => st959.trans k) ?_
     show Rch p e below T959 (mkF m 178 #[.val (.int sp), .val (.int qc), .val (.int mc), .val (.int lb), .val (.int lq), .val (.int 0), .val (.int 0), .val (.ref a831), .val (.ref a854), .val (.ref ra_889), .val (.ref ra_889), .val (.ref a898), .val (.ref ra_931), .val (.int 0)] [(.int ((0 : Int32) >>> ((0 : Int32) &&& 31)))]) _
     refine w_iload (pc' := 180) X959 hx hby at_178 rfl rfl ?_
     refine w_icmpYes (pc' := 185) X959 hx hby at_180 (XT.ii_eq_t (by decide)) (by decide) ?_
     refine w_aload (pc' := 187) X959 hx hby at_185 rfl rfl rfl ?_
     refine w_iconst (pc' := 188) (v := 0) X959 hx hby at_187 rfl rfl ?_
     refine w_iload (pc' := 190) X959 hx hby at_188 rfl rfl ?_
     refine w_iload (pc' := 192) X959 hx hby at_190 rfl rfl ?_
     refine w_iload (pc' := 194) X959 hx hby at_192 rfl rfl ?_
     refine w_aload (pc' := 196) X959 hx hby at_194 rfl rfl rfl ?_
     refine w_aload (pc' := 198) X959 hx hby at_196 rfl rfl rfl ?_
     obtain ⟨_, _, ⟨T961, L961, k961, n961⟩, -, X961, ⟨Lc961, hQ961, l961, y961, z961⟩, st961⟩ := Jvm.LawKit.callS X959 hx (y := (⟨"com/example/alcance/alcance/IdentifiersQuotedPinLaw", "ok", "(Ljava/lang/String;IIII[C[C)Z"⟩ : MethodName)) hown896 (mvT hZ896 (wi hw 154 rfl)) (mvT hZ896 (wi hw 155 rfl)) (mvT hZ896 (wi hw 3 rfl)) (mvT hZ896 (wi hw 156 rfl)) (by decide) (backOf (W := 0) (rm_ok_far l Z a0 hw [] ra_931 0 0 0 0 a831 a854 T931.heap h0.size Z955 (by decide)) hZ896 (wi hw 156 rfl) (wi hw 3 rfl) (by decide) (by decide)) (g := (mkF m 198 #[.val (.int sp), .val (.int qc), .val (.int mc), .val (.int lb), .val (.int lq), .val (.int 0), .val (.int 0), .val (.ref a831), .val (.ref a854), .val (.ref ra_889), .val (.ref ra_889), .val (.ref a898), .val (.ref ra_931), .val (.int 0)] [(.ref a854), (.ref a831), (.int 0), (.int 0), (.int 0), (.int 0), (.ref ra_931)])) rfl (by rw [hml]; rfl) (argsL := [(.ref ra_931), (.int 0), (.int 0), (.int 0), (.int 0), (.ref a831), (.ref a854)]) (rest := []) (lenOf pd__Ljava_lang_String_IIII_C_C_Z rfl) rfl (by show 2 * 0 + _ ≤ _; exact Nat.le_of_eq rfl) (hb hby at_198) (fun _ _ => ⟨rfl, K959, (by decide : 9 + 0 ≤ _), (by decide : 52 + 0 ≤ _)⟩)
     dsimp only [Pt.U, Pt.locs, Pt.cells, Pt.slots] at X961 l961 y961 z961 st961 hQ961
     subst l961 y961 z961
     obtain ⟨rfl, NQ961, K961⟩ := hQ961
     have N962 := Fr.app N960 NQ961
     refine Rch.st (fun _ k => st961 _ k) ?_
     show Rch p e below T961 (mkF m 201 #[.val (.int sp), .val (.int qc), .val (.int mc), .val (.int lb), .val (.int lq), .val (.int 0), .val (.int 0), .val (.ref a831), .val (.ref a854), .val (.ref ra_889), .val (.ref ra_889), .val (.ref a898), .val (.ref ra_931), .val (.int 0)] [(.int 1)]) _
     refine w_ifNo (pc' := 204) X961 hx hby at_201 (XT.i0_eq_f (by decide)) rfl ?_
     refine w_aload (pc' := 206) X961 hx hby at_204 rfl rfl rfl ?_
     refine w_iconst (pc' := 207) (v := 1) X961 hx hby at_206 rfl rfl ?_
     refine w_iload (pc' := 209) X961 hx hby at_207 rfl rfl ?_
     refine w_iload (pc' := 211) X961 hx hby at_209 rfl rfl ?_
     refine w_iload (pc' := 213) X961 hx hby at_211 rfl rfl ?_
     refine w_aload (pc' := 215) X961 hx hby at_213 rfl rfl rfl ?_
     refine w_aload (pc' := 217) X961 hx hby at_215 rfl rfl rfl ?_
     obtain ⟨_, _, ⟨T963, L963, k963, n963⟩, -, X963, ⟨Lc963, hQ963, l963, y963, z963⟩, st963⟩ := Jvm.LawKit.callS X961 hx (y := (⟨"com/example/alcance/alcance/IdentifiersQuotedPinLaw", "ok", "(Ljava/lang/String;IIII[C[C)Z"⟩ : MethodName)) hown896 (mvT hZ896 (wi hw 154 rfl)) (mvT hZ896 (wi hw 155 rfl)) (mvT hZ896 (wi hw 3 rfl)) (mvT hZ896 (wi hw 156 rfl)) (by decide) (backOf (W := 0) (rm_ok_far l Z a0 hw [] ra_931 1 0 0 0 a831 a854 T931.heap h0.size Z955 (by decide)) hZ896 (wi hw 156 rfl) (wi hw 3 rfl) (by decide) (by decide)) (g := (mkF m 217 #[.val (.int sp), .val (.int qc), .val (.int mc), .val (.int lb), .val (.int lq), .val (.int 0), .val (.int 0), .val (.ref a831), .val (.ref a854), .val (.ref ra_889), .val (.ref ra_889), .val (.ref a898), .val (.ref ra_931), .val (.int 0)] [(.ref a854), (.ref a831), (.int 0), (.int 0), (.int 0), (.int 1), (.ref ra_931)])) rfl (by rw [hml]; rfl) (argsL := [(.ref ra_931), (.int 1), (.int 0), (.int 0), (.int 0), (.ref a831), (.ref a854)]) (rest := []) (lenOf pd__Ljava_lang_String_IIII_C_C_Z rfl) rfl (by show 2 * 0 + _ ≤ _; exact Nat.le_of_eq rfl) (hb hby at_217) (fun _ _ => ⟨rfl, K961, (by decide : 9 + 0 ≤ _), (by decide : 52 + 0 ≤ _)⟩)
     dsimp only [Pt.U, Pt.locs, Pt.cells, Pt.slots] at X963 l963 y963 z963 st963 hQ963
     subst l963 y963 z963
     obtain ⟨rfl, NQ963, K963⟩ := hQ963
     have N964 := Fr.app N962 NQ963
     refine Rch.st (fun _ k => st963 _ k) ?_
     show Rch p e below T963 (mkF m 220 #[.val (.int sp), .val (.int qc), .val (.int mc), .val (.int lb), .val (.int lq), .val (.int 0), .val (.int 0), .val (.ref a831), .val (.ref a854), .val (.ref ra_889), .val (.ref ra_889), .val (.ref a898), .val (.ref ra_931), .val (.int 0)] [(.int 1)]) _
     refine w_ifNo (pc' := 223) X963 hx hby at_220 (XT.i0_eq_f (by decide)) rfl ?_
     refine w_aload (pc' := 225) X963 hx hby at_223 rfl rfl rfl ?_
     refine w_iconst (pc' := 226) (v := 2) X963 hx hby at_225 rfl rfl ?_
     refine w_iload (pc' := 228) X963 hx hby at_226 rfl rfl ?_
     refine w_iload (pc' := 230) X963 hx hby at_228 rfl rfl ?_
     refine w_iload (pc' := 232) X963 hx hby at_230 rfl rfl ?_
     refine w_aload (pc' := 234) X963 hx hby at_232 rfl rfl rfl ?_
     refine w_aload (pc' := 236) X963 hx hby at_234 rfl rfl rfl ?_
     obtain ⟨_, _, ⟨T965, L965, k965, n965⟩, -, X965, ⟨Lc965, hQ965, l965, y965, z965⟩, st965⟩ := Jvm.LawKit.callS X963 hx (y := (⟨"com/example/alcance/alcance/IdentifiersQuotedPinLaw", "ok", "(Ljava/lang/String;IIII[C[C)Z"⟩ : MethodName)) hown896 (mvT hZ896 (wi hw 154 rfl)) (mvT hZ896 (wi hw 155 rfl)) (mvT hZ896 (wi hw 3 rfl)) (mvT hZ896 (wi hw 156 rfl)) (by decide) (backOf (W := 0) (rm_ok_far l Z a0 hw [] ra_931 2 0 0 0 a831 a854 T931.heap h0.size Z955 (by decide)) hZ896 (wi hw 156 rfl) (wi hw 3 rfl) (by decide) (by decide)) (g := (mkF m 236 #[.val (.int sp), .val (.int qc), .val (.int mc), .val (.int lb), .val (.int lq), .val (.int 0), .val (.int 0), .val (.ref a831), .val (.ref a854), .val (.ref ra_889), .val (.ref ra_889), .val (.ref a898), .val (.ref ra_931), .val (.int 0)] [(.ref a854), (.ref a831), (.int 0), (.int 0), (.int 0), (.int 2), (.ref ra_931)])) rfl (by rw [hml]; rfl) (argsL := [(.ref ra_931), (.int 2), (.int 0), (.int 0), (.int 0), (.ref a831), (.ref a854)]) (rest := []) (lenOf pd__Ljava_lang_String_IIII_C_C_Z rfl) rfl (by show 2 * 0 + _ ≤ _; exact Nat.le_of_eq rfl) (hb hby at_236) (fun _ _ => ⟨rfl, K963, (by decide : 9 + 0 ≤ _), (by decide : 52 + 0 ≤ _)⟩)
     dsimp only [Pt.U, Pt.locs, Pt.cells, Pt.slots] at X965 l965 y965 z965 st965 hQ965
     subst l965 y965 z965
     obtain ⟨rfl, NQ965, K965⟩ := hQ965
     have N966 := Fr.app N964 NQ965
     refine Rch.st (fun _ k => st965 _ k) ?_
     show Rch p e below T965 (mkF m 239 #[.val (.int sp), .val (.int qc), .val (.int mc), .val (.int lb), .val (.int lq), .val (.int 0), .val (.int 0), .val (.ref a831), .val (.ref a854), .val (.ref ra_889), .val (.ref ra_889), .val (.ref a898), .val (.ref ra_931), .val (.int 0)] [(.int 1)]) _
     refine w_ifNo (pc' := 242) X965 hx hby at_239 (XT.i0_eq_f (by decide)) rfl ?_
     refine w_aload (pc' := 244) X965 hx hby at_242 rfl rfl rfl ?_
     refine w_iconst (pc' := 245) (v := 3) X965 hx hby at_244 rfl rfl ?_
     refine w_iload (pc' := 247) X965 hx hby at_245 rfl rfl ?_
     refine w_iload (pc' := 249) X965 hx hby at_247 rfl rfl ?_
     refine w_iload (pc' := 251) X965 hx hby at_249 rfl rfl ?_
     refine w_aload (pc' := 253) X965 hx hby at_251 rfl rfl rfl ?_
     refine w_aload (pc' := 255) X965 hx hby at_253 rfl rfl rfl ?_
     obtain ⟨_, _, ⟨T967, L967, k967, n967⟩, -, X967, ⟨Lc967, hQ967, l967, y967, z967⟩, st967⟩ := Jvm.LawKit.callS X965 hx (y := (⟨"com/example/alcance/alcance/IdentifiersQuotedPinLaw", "ok", "(Ljava/lang/String;IIII[C[C)Z"⟩ : MethodName)) hown896 (mvT hZ896 (wi hw 154 rfl)) (mvT hZ896 (wi hw 155 rfl)) (mvT hZ896 (wi hw 3 rfl)) (mvT hZ896 (wi hw 156 rfl)) (by decide) (backOf (W := 0) (rm_ok_far l Z a0 hw [] ra_931 3 0 0 0 a831 a854 T931.heap h0.size Z955 (by decide)) hZ896 (wi hw 156 rfl) (wi hw 3 rfl) (by decide) (by decide)) (g := (mkF m 255 #[.val (.int sp), .val (.int qc), .val (.int mc), .val (.int lb), .val (.int lq), .val (.int 0), .val (.int 0), .val (.ref a831), .val (.ref a854), .val (.ref ra_889), .val (.ref ra_889), .val (.ref a898), .val (.ref ra_931), .val (.int 0)] [(.ref a854), (.ref a831), (.int 0), (.int 0), (.int 0), (.int 3), (.ref ra_931)])) rfl (by rw [hml]; rfl) (argsL := [(.ref ra_931), (.int 3), (.int 0), (.int 0), (.int 0), (.ref a831), (.ref a854)]) (rest := []) (lenOf pd__Ljava_lang_String_IIII_C_C_Z rfl) rfl (by show 2 * 0 + _ ≤ _; exact Nat.le_of_eq rfl) (hb hby at_255) (fun _ _ => ⟨rfl, K965, (by decide : 9 + 0 ≤ _), (by decide : 52 + 0 ≤ _)⟩)
     dsimp only [Pt.U, Pt.locs, Pt.cells, Pt.slots] at X967 l967 y967 z967 st967 hQ967
     subst l967 y967 z967
     obtain ⟨rfl, NQ967, K967⟩ := hQ967
     have N968 := Fr.app N966 NQ967
     refine Rch.st (fun _ k => st967 _ k) ?_
     show Rch p e below T967 (mkF m 258 #[.val (.int sp), .val (.int qc), .val (.int mc), .val (.int lb), .val (.int lq), .val (.int 0), .val (.int 0), .val (.ref a831), .val (.ref a854), .val (.ref ra_889), .val (.ref ra_889), .val (.ref a898), .val (.ref ra_931), .val (.int 0)] [(.int 1)]) _
     refine w_ifNo (pc' := 261) X967 hx hby at_258 (XT.i0_eq_f (by decide)) rfl ?_
     refine w_aload (pc' := 263) X967 hx hby at_261 rfl rfl rfl ?_
     refine w_iconst (pc' := 264) (v := 4) X967 hx hby at_263 rfl rfl ?_
     refine w_iload (pc' := 266) X967 hx hby at_264 rfl rfl ?_
     refine w_iload (pc' := 268) X967 hx hby at_266 rfl rfl ?_
     refine w_iload (pc' := 270) X967 hx hby at_268 rfl rfl ?_
     refine w_aload (pc' := 272) X967 hx hby at_270 rfl rfl rfl ?_
     refine w_aload (pc' := 274) X967 hx hby at_272 rfl rfl rfl ?_
     obtain ⟨_, _, ⟨T969, L969, k969, n969⟩, -, X969, ⟨Lc969, hQ969, l969, y969, z969⟩, st969⟩ := Jvm.LawKit.callS X967 hx (y := (⟨"com/example/alcance/alcance/IdentifiersQuotedPinLaw", "ok", "(Ljava/lang/String;IIII[C[C)Z"⟩ : MethodName)) hown896 (mvT hZ896 (wi hw 154 rfl)) (mvT hZ896 (wi hw 155 rfl)) (mvT hZ896 (wi hw 3 rfl)) (mvT hZ896 (wi hw 156 rfl)) (by decide) (backOf (W := 0) (rm_ok_far l Z a0 hw [] ra_931 4 0 0 0 a831 a854 T931.heap h0.size Z955 (by decide)) hZ896 (wi hw 156 rfl) (wi hw 3 rfl) (by decide) (by decide)) (g := (mkF m 274 #[.val (.int sp), .val (.int qc), .val (.int mc), .val (.int lb), .val (.int lq), .val (.int 0), .val (.int 0), .val (.ref a831), .val (.ref a854), .val (.ref ra_889), .val (.ref ra_889), .val (.ref a898), .val (.ref ra_931), .val (.int 0)] [(.ref a854), (.ref a831), (.int 0), (.int 0), (.int 0), (.int 4), (.ref ra_931)])) rfl (by rw [hml]; rfl) (argsL := [(.ref ra_931), (.int 4), (.int 0), (.int 0), (.int 0), (.ref a831), (.ref a854)]) (rest := []) (lenOf pd__Ljava_lang_String_IIII_C_C_Z rfl) rfl (by show 2 * 0 + _ ≤ _; exact Nat.le_of_eq rfl) (hb hby at_274) (fun _ _ => ⟨rfl, K967, (by decide : 9 + 0 ≤ _), (by decide : 52 + 0 ≤ _)⟩)
     dsimp only [Pt.U, Pt.locs, Pt.cells, Pt.slots] at X969 l969 y969 z969 st969 hQ969
     subst l969 y969 z969
     obtain ⟨rfl, NQ969, K969⟩ := hQ969
     have N970 := Fr.app N968 NQ969
     refine Rch.st (fun _ k => st969 _ k) ?_
     show Rch p e below T969 (mkF m 277 #[.val (.int sp), .val (.int qc), .val (.int mc), .val (.int lb), .val (.int lq), .val (.int 0), .val (.int 0), .val (.ref a831), .val (.ref a854), .val (.ref ra_889), .val (.ref ra_889), .val (.ref a898), .val (.ref ra_931), .val (.int 0)] [(.int 1)]) _
     refine w_ifNo (pc' := 280) X969 hx hby at_277 (XT.i0_eq_f (by decide)) rfl ?_
     refine w_aload (pc' := 282) X969 hx hby at_280 rfl rfl rfl ?_
     refine w_iconst (pc' := 283) (v := 5) X969 hx hby at_282 rfl rfl ?_
     refine w_iload (pc' := 285) X969 hx hby at_283 rfl rfl ?_
     refine w_iload (pc' := 287) X969 hx hby at_285 rfl rfl ?_
     refine w_iload (pc' := 289) X969 hx hby at_287 rfl rfl ?_
     refine w_aload (pc' := 291) X969 hx hby at_289 rfl rfl rfl ?_
     refine w_aload (pc' := 293) X969 hx hby at_291 rfl rfl rfl ?_
     obtain ⟨_, _, ⟨T971, L971, k971, n971⟩, -, X971, ⟨Lc971, hQ971, l971, y971, z971⟩, st971⟩ := Jvm.LawKit.callS X969 hx (y := (⟨"com/example/alcance/alcance/IdentifiersQuotedPinLaw", "ok", "(Ljava/lang/String;IIII[C[C)Z"⟩ : MethodName)) hown896 (mvT hZ896 (wi hw 154 rfl)) (mvT hZ896 (wi hw 155 rfl)) (mvT hZ896 (wi hw 3 rfl)) (mvT hZ896 (wi hw 156 rfl)) (by decide) (backOf (W := 0) (rm_ok_far l Z a0 hw [] ra_931 5 0 0 0 a831 a854 T931.heap h0.size Z955 (by decide)) hZ896 (wi hw 156 rfl) (wi hw 3 rfl) (by decide) (by decide)) (g := (mkF m 293 #[.val (.int sp), .val (.int qc), .val (.int mc), .val (.int lb), .val (.int lq), .val (.int 0), .val (.int 0), .val (.ref a831), .val (.ref a854), .val (.ref ra_889), .val (.ref ra_889), .val (.ref a898), .val (.ref ra_931), .val (.int 0)] [(.ref a854), (.ref a831), (.int 0), (.int 0), (.int 0), (.int 5), (.ref ra_931)])) rfl (by rw [hml]; rfl) (argsL := [(.ref ra_931), (.int 5), (.int 0), (.int 0), (.int 0), (.ref a831), (.ref a854)]) (rest := []) (lenOf pd__Ljava_lang_String_IIII_C_C_Z rfl) rfl (by show 2 * 0 + _ ≤ _; exact Nat.le_of_eq rfl) (hb hby at_293) (fun _ _ => ⟨rfl, K969, (by decide : 9 + 0 ≤ _), (by decide : 52 + 0 ≤ _)⟩)
     dsimp only [Pt.U, Pt.locs, Pt.cells, Pt.slots] at X971 l971 y971 z971 st971 hQ971
     subst l971 y971 z971
     obtain ⟨rfl, NQ971, K971⟩ := hQ971
     have N972 := Fr.app N970 NQ971
     refine Rch.st (fun _ k => st971 _ k) ?_
     show Rch p e below T971 (mkF m 296 #[.val (.int sp), .val (.int qc), .val (.int mc), .val (.int lb), .val (.int lq), .val (.int 0), .val (.int 0), .val (.ref a831), .val (.ref a854), .val (.ref ra_889), .val (.ref ra_889), .val (.ref a898), .val (.ref ra_931), .val (.int 0)] [(.int 1)]) _
     refine w_ifNo (pc' := 299) X971 hx hby at_296 (XT.i0_eq_f (by decide)) rfl ?_
     refine w_aload (pc' := 301) X971 hx hby at_299 rfl rfl rfl ?_
     refine w_bipush (pc' := 303) (v := 6) X971 hx hby at_301 rfl rfl ?_
     refine w_iload (pc' := 305) X971 hx hby at_303 rfl rfl ?_
     refine w_iload (pc' := 307) X971 hx hby at_305 rfl rfl ?_
     refine w_iload (pc' := 309) X971 hx hby at_307 rfl rfl ?_
     refine w_aload (pc' := 311) X971 hx hby at_309 rfl rfl rfl ?_
     refine w_aload (pc' := 313) X971 hx hby at_311 rfl rfl rfl ?_
     obtain ⟨_, _, ⟨T973, L973, k973, n973⟩, -, X973, ⟨Lc973, hQ973, l973, y973, z973⟩, st973⟩ := Jvm.LawKit.callS X971 hx (y := (⟨"com/example/alcance/alcance/IdentifiersQuotedPinLaw", "ok", "(Ljava/lang/String;IIII[C[C)Z"⟩ : MethodName)) hown896 (mvT hZ896 (wi hw 154 rfl)) (mvT hZ896 (wi hw 155 rfl)) (mvT hZ896 (wi hw 3 rfl)) (mvT hZ896 (wi hw 156 rfl)) (by decide) (backOf (W := 0) (rm_ok_far l Z a0 hw [] ra_931 6 0 0 0 a831 a854 T931.heap h0.size Z955 (by decide)) hZ896 (wi hw 156 rfl) (wi hw 3 rfl) (by decide) (by decide)) (g := (mkF m 313 #[.val (.int sp), .val (.int qc), .val (.int mc), .val (.int lb), .val (.int lq), .val (.int 0), .val (.int 0), .val (.ref a831), .val (.ref a854), .val (.ref ra_889), .val (.ref ra_889), .val (.ref a898), .val (.ref ra_931), .val (.int 0)] [(.ref a854), (.ref a831), (.int 0), (.int 0), (.int 0), (.int 6), (.ref ra_931)])) rfl (by rw [hml]; rfl) (argsL := [(.ref ra_931), (.int 6), (.int 0), (.int 0), (.int 0), (.ref a831), (.ref a854)]) (rest := []) (lenOf pd__Ljava_lang_String_IIII_C_C_Z rfl) rfl (by show 2 * 0 + _ ≤ _; exact Nat.le_of_eq rfl) (hb hby at_313) (fun _ _ => ⟨rfl, K971, (by decide : 9 + 0 ≤ _), (by decide : 52 + 0 ≤ _)⟩)
     dsimp only [Pt.U, Pt.locs, Pt.cells, Pt.slots] at X973 l973 y973 z973 st973 hQ973
     subst l973 y973 z973
     obtain ⟨rfl, NQ973, K973⟩ := hQ973
     have N974 := Fr.app N972 NQ973
     refine Rch.st (fun _ k => st973 _ k) ?_
     show Rch p e below T973 (mkF m 316 #[.val (.int sp), .val (.int qc), .val (.int mc), .val (.int lb), .val (.int lq), .val (.int 0), .val (.int 0), .val (.ref a831), .val (.ref a854), .val (.ref ra_889), .val (.ref ra_889), .val (.ref a898), .val (.ref ra_931), .val (.int 0)] [(.int 1)]) _
     refine w_ifNo (pc' := 319) X973 hx hby at_316 (XT.i0_eq_f (by decide)) rfl ?_
     refine w_iconst (pc' := 320) (v := 1) X973 hx hby at_319 rfl rfl ?_
     refine w_goto (pc' := 324) X973 hx hby at_320 (by decide) ?_
     exact Rch.retVW X973 hx hS896 (by rw [K973]; exact hk956) Bd.returns rfl (Or.inl ⟨rfl, by simp, _, rfl⟩) (hb hby at_324) (by rw [K973]; exact ⟨rfl, (own_Fr Z0 N974), Kp954, own_ib_mono (own_ib (s := s.setVm T896.vm) IQ896 X973.warmed) (by decide)⟩) (by decide) (by decide)
    ·skip
     show Rch p e below T889 (mkF m 129 #[.val (.int sp), .val (.int qc), .val (.int mc), .val (.int lb), .val (.int lq), .val (.int 0), .val (.int 1), .val (.ref a831), .val (.ref a854), .val (.ref ra_889), .unset, .unset, .unset, .unset] [(.int 0), (.ref a854), (.ref a831), (.int 1)]) _
     obtain ⟨_, _, ⟨T975, L975, k975, n975⟩, -, X975, ⟨Lc975, hQ975, l975, y975, z975⟩, st975⟩ := Jvm.LawKit.callS X889w hx (y := (⟨"com/example/alcance/alcance/IdentifiersQuotedPinLaw", "make", "(I[C[CZ)Ljava/lang/String;"⟩ : MethodName)) hown889 (mvT hZ889 (wi hw 1 rfl)) (mvT hZ889 (wi hw 2 rfl)) (mvT hZ889 (wi hw 3 rfl)) (mvT hZ889 (wi hw 4 rfl)) (by decide) (backOf (W := 0) (rm_mk_0_1 l Z a0 hw [] G1 a831 a854 kc854 na nb nc T889.heap h0.size Z895 (O2) (P5) f892 (ch_na) Old893) hZ889 (wi hw 4 rfl) (wi hw 3 rfl) (by decide) (by decide)) (g := (mkF m 129 #[.val (.int sp), .val (.int qc), .val (.int mc), .val (.int lb), .val (.int lq), .val (.int 0), .val (.int 1), .val (.ref a831), .val (.ref a854), .val (.ref ra_889), .unset, .unset, .unset, .unset] [(.int 0), (.ref a854), (.ref a831), (.int 1)])) rfl (by rw [hml]; rfl) (argsL := [(.int 1), (.ref a831), (.ref a854), (.int 0)]) (rest := []) (lenOf pd__I_C_CZ_Ljava_lang_String_ rfl) rfl (by show 2 * 0 + _ ≤ _; exact Nat.le_of_eq rfl) (hb hby at_129) (fun _ _ => ⟨rfl, (rfl : T889.heap = T889.heap), (by decide : 4 + 2 ≤ _), (by decide : 9 + 5 ≤ _)⟩)
     dsimp only [Pt.U, Pt.locs, Pt.cells, Pt.slots] at X975 l975 y975 z975 st975 hQ975
     subst l975 y975 z975
     obtain ⟨ra_975, t_975, kt_975, rfl, NQ975, K975, pq975_0, pq975_1, fq975_0, fq975_1, fq975_2, fq975_3⟩ := hQ975
     have N976 := Fr.app N890 NQ975
     have f987 := f891.keep K975 nin0
     have f988 := f892.keep K975 nin0
     have f989 := fq889_0.keep K975
     have f990 := fq889_1.keep K975 nin0
     have f991 := fq889_2.keep K975 nin0
     have f992 := fq889_3.keep K975 nin0
     have Old993 := Old893.keep K975 all0
     have Kp994 : Keep h0 T975.heap [] := Kp894.trans K975 all0
     have Z995 := Nat.le_trans Z895 K975.1
     have hk996 := Nat.le_trans hk889 K975.1
     refine Rch.st (fun _ k => st975 _ k) ?_
     show Rch p e below T975 (mkF m 132 #[.val (.int sp), .val (.int qc), .val (.int mc), .val (.int lb), .val (.int lq), .val (.int 0), .val (.int 1), .val (.ref a831), .val (.ref a854), .val (.ref ra_889), .unset, .unset, .unset, .unset] [(.ref ra_975)]) _
     refine w_astore (pc' := 134) (l' := #[.val (.int sp), .val (.int qc), .val (.int mc), .val (.int lb), .val (.int lq), .val (.int 0), .val (.int 1), .val (.ref a831), .val (.ref a854), .val (.ref ra_889), .val (.ref ra_975), .unset, .unset, .unset]) X975 hx hby at_132 rfl rfl rfl ?_
     obtain ⟨T997, h997, X997, e997, E997, A997, D997, -, st997⟩ := newO X975 hx hZ889 hown889 (wi hw 13 rfl) (wi hw 14 rfl) (wi hw 15 rfl) (rfl : T975.heap = T975.heap) (g := (mkF m 134 #[.val (.int sp), .val (.int qc), .val (.int mc), .val (.int lb), .val (.int lq), .val (.int 0), .val (.int 1), .val (.ref a831), .val (.ref a854), .val (.ref ra_889), .val (.ref ra_975), .unset, .unset, .unset] [])) rfl (hb hby at_134) (by decide) (by decide)
     obtain ⟨a997, g997⟩ : ∃ z, z = T975.heap.size := ⟨_, rfl⟩
     rw [← g997] at A997 D997 st997
     have ne998 : a831 ≠ a997 := by rw [g997]; exact Nat.ne_of_lt f987.lt
     have ne999 : a854 ≠ a997 := by rw [g997]; exact Nat.ne_of_lt f988.lt
     have ne1000 : ra_889 ≠ a997 := by rw [g997]; exact Nat.ne_of_lt f989.lt
     have ne1001 : ra_975 ≠ a997 := by rw [g997]; exact Nat.ne_of_lt fq975_0.lt
     have ne1002 : t_889 ≠ a997 := by rw [g997]; exact Nat.ne_of_lt f992.lt
     have ne1003 : t_975 ≠ a997 := by rw [g997]; exact Nat.ne_of_lt fq975_3.lt
     have ge1004 : h0.size ≤ a997 := Nat.le_trans Z995 (Nat.le_of_eq g997.symm)
     have hk1006 := Nat.le_trans hk996 E997.1
     have f1007 := f987.ext E997
     have f1008 := f988.ext E997
     have f1009 := f989.ext E997
     have f1010 := f990.ext E997
     have f1011 := f991.ext E997
     have f1012 := f992.ext E997
     have f1013 := fq975_0.ext E997
     have f1014 := fq975_1.ext E997
     have f1015 := fq975_2.ext E997
     have f1016 := fq975_3.ext E997
     have Old1017 := Old993.ext E997
     have Z1018 := Nat.le_trans Z995 E997.1
     have Kp1019 : Keep h0 h997 [] := Kp994.ext E997
     have f1020 : Fld Z h997 a997 "com/example/alcance/alcance/Identifiers" "lowersBare" "Z" (.int (0 : Int32)) := D997 (Or.inr (wi hw 28 rfl)) (ty := .boolean) (by decide)
     have f1021 : Fld Z h997 a997 "com/example/alcance/alcance/Identifiers" "lowersQuoted" "Z" (.int (0 : Int32)) := D997 (Or.inr (wi hw 30 rfl)) (ty := .boolean) (by decide)
     have f1022 : Fld Z h997 a997 "com/example/alcance/alcance/Identifiers" "quote" "Ljava/lang/String;" .null := D997 (Or.inr (wi hw 32 rfl)) (ty := (.object "java/lang/String")) (by decide)
     refine Rch.st (fun _ k => st997 _ k) ?_
     show Rch p e below T997 (mkF m 137 #[.val (.int sp), .val (.int qc), .val (.int mc), .val (.int lb), .val (.int lq), .val (.int 0), .val (.int 1), .val (.ref a831), .val (.ref a854), .val (.ref ra_889), .val (.ref ra_975), .unset, .unset, .unset] [(.ref a997)]) _
     refine w_dup (pc' := 138) X997 hx hby at_137 rfl rfl ?_
     refine w_iloadN (pc' := 139) X997 hx hby at_138 rfl rfl ?_
     refine w_iload (pc' := 141) X997 hx hby at_139 rfl rfl ?_
     refine w_aload (pc' := 143) X997 hx hby at_141 rfl rfl rfl ?_
     obtain ⟨_, _, ⟨T1023, L1023, k1023, n1023⟩, -, X1023, ⟨Lc1023, hQ1023, l1023, y1023, z1023⟩, st1023⟩ := X997.specialBack hx (y := (⟨"com/example/alcance/alcance/Identifiers", "<init>", "(ZZLjava/lang/String;)V"⟩ : MethodName)) rfl hown889 (mvT hZ889 (wi hw 16 rfl)) (mvT hZ889 (wi hw 17 rfl)) (mvT hZ889 (wi hw 18 rfl)) (by decide) (backOf (W := 1) (rm_id l Z a0 hw [] a997 lb lq ra_889 h997 h0.size Z1018 A997 f1020 f1021 f1022 (ge1004) (hlb) (hlq)) hZ889 (wi hw 18 rfl) (wi hw 15 rfl) (by decide) (by decide)) (g := (mkF m 143 #[.val (.int sp), .val (.int qc), .val (.int mc), .val (.int lb), .val (.int lq), .val (.int 0), .val (.int 1), .val (.ref a831), .val (.ref a854), .val (.ref ra_889), .val (.ref ra_975), .unset, .unset, .unset] [(.ref ra_889), (.int lq), (.int lb), (.ref a997), (.ref a997)])) rfl (by rw [hml]; rfl) (Steps.refl _) (a := a997) (argsL := [(.int lb), (.int lq), (.ref ra_889)]) (rest := [(.ref a997)]) (lenOf pd__ZZLjava_lang_String__V rfl) rfl (by show 2 * 0 + _ ≤ _; exact Nat.le_of_eq rfl) (hb hby at_143) (fun _ _ => ⟨rfl, e997, (by decide : 7 + 0 ≤ _), (by decide : 17 + 0 ≤ _)⟩)
     dsimp only [Pt.U, Pt.locs, Pt.cells, Pt.slots] at X1023 l1023 y1023 z1023 st1023 hQ1023
     subst l1023 y1023 z1023
     obtain ⟨rfl, NQ1023, K1023, fq1023_0⟩ := hQ1023
     have N1024 := Fr.app N976 NQ1023
     have f1025 := f1007.keep K1023 (ninS ne998 nin0)
     have f1026 := f1008.keep K1023 (ninS ne999 nin0)
     have f1027 := f1009.keep K1023
     have f1028 := f1010.keep K1023 (ninS ne1000 nin0)
     have f1029 := f1011.keep K1023 (ninS ne1000 nin0)
     have f1030 := f1012.keep K1023 (ninS ne1002 nin0)
     have f1031 := f1013.keep K1023
     have f1032 := f1014.keep K1023 (ninS ne1001 nin0)
     have f1033 := f1015.keep K1023 (ninS ne1001 nin0)
     have f1034 := f1016.keep K1023 (ninS ne1003 nin0)
     have f1035 := A997.keep K1023
     have Old1036 := Old1017.keep K1023 (allS ge1004 all0)
     have Kp1037 : Keep h0 T1023.heap [] := Kp1019.trans K1023 (allS (Or.inr (Nat.le_trans Kp994.1 (Nat.le_of_eq g997.symm))) all0)
     have Z1038 := Nat.le_trans Z1018 K1023.1
     have hk1039 := Nat.le_trans hk1006 K1023.1
     refine Rch.st (fun _ k => st1023.trans k) ?_
     show Rch p e below T1023 (mkF m 146 #[.val (.int sp), .val (.int qc), .val (.int mc), .val (.int lb), .val (.int lq), .val (.int 0), .val (.int 1), .val (.ref a831), .val (.ref a854), .val (.ref ra_889), .val (.ref ra_975), .unset, .unset, .unset] [(.ref a997)]) _
     refine w_astore (pc' := 148) (l' := #[.val (.int sp), .val (.int qc), .val (.int mc), .val (.int lb), .val (.int lq), .val (.int 0), .val (.int 1), .val (.ref a831), .val (.ref a854), .val (.ref ra_889), .val (.ref ra_975), .val (.ref a997), .unset, .unset]) X1023 hx hby at_146 rfl rfl rfl ?_
     refine w_aload (pc' := 150) X1023 hx hby at_148 rfl rfl rfl ?_
     refine w_aload (pc' := 152) X1023 hx hby at_150 rfl rfl rfl ?_
     obtain ⟨cq1040, kq1040, q1040a, q1040b, q1040c⟩ := isOf hZ889 (rfl : T1023.heap = T1023.heap) f1035
     obtain ⟨_, _, ⟨T1040, L1040, k1040, n1040⟩, -, X1040, ⟨Lc1040, hQ1040, l1040, y1040, z1040⟩, st1040⟩ := X1023.virtualBack hx (y := (⟨"com/example/alcance/alcance/Identifiers", "quoted", "(Ljava/lang/String;)Ljava/lang/String;"⟩ : MethodName)) (z := (⟨"com/example/alcance/alcance/Identifiers", "quoted", "(Ljava/lang/String;)Ljava/lang/String;"⟩ : MethodName)) hown889 (mvT hZ889 (wi hw 33 rfl)) (mvT hZ889 (wi hw 34 rfl)) (notFace_of_selects (args := #[]) (mvT hZ889 (wi hw 36 rfl))) (mvT hZ889 (wi hw 36 rfl)) (mvT hZ889 (wi hw 35 rfl)) (by decide) (backOf (W := 0) (rm_qu l Z a0 hw [] G1 a997 ra_889 t_889 kt_889 0 ([]) (.int 0) ra_975 t_975 kt_975 1 ([(.int (own_by na))]) (.int 0) T1023.heap h0.size Z1038 (O2) (P5) fq1023_0 f1027 f1028 f1029 f1030 f1031 f1032 f1033 f1034 (by decide) (by decide) (by decide) (by decide) (by decide) (by decide) (by decide) (by decide) (by decide) (by decide) (by decide) (by decide) (by decide) (by decide) Old1036) hZ889 (wi hw 37 rfl) (wi hw 15 rfl) (by decide) (by decide)) q1040a q1040c (g := (mkF m 152 #[.val (.int sp), .val (.int qc), .val (.int mc), .val (.int lb), .val (.int lq), .val (.int 0), .val (.int 1), .val (.ref a831), .val (.ref a854), .val (.ref ra_889), .val (.ref ra_975), .val (.ref a997), .unset, .unset] [(.ref ra_975), (.ref a997)])) rfl (by rw [hml]; rfl) (Steps.refl _) (argsL := [(.ref ra_975)]) (rest := []) (lenOf pd__Ljava_lang_String__Ljava_lang_String_ rfl) rfl (by show 2 * 0 + _ ≤ _; exact Nat.le_of_eq rfl) (hb hby at_152) (fun _ _ => ⟨rfl, (rfl : T1023.heap = T1023.heap), (by decide : 7 + 4 ≤ _), (by decide : 17 + 40 ≤ _)⟩)
     dsimp only [Pt.U, Pt.locs, Pt.cells, Pt.slots] at X1040 l1040 y1040 z1040 st1040 hQ1040
     subst l1040 y1040 z1040
     obtain ⟨ra_1040, t_1040, kt_1040, rfl, NQ1040, K1040, pq1040_0, pq1040_1, fq1040_0, fq1040_1, fq1040_2, fq1040_3⟩ := hQ1040
     have N1041 := Fr.app N1024 NQ1040
     have f1058 := f1025.keep K1040 nin0
     have f1059 := f1026.keep K1040 nin0
     have Old1070 := Old1036.keep K1040 all0
     have Kp1071 : Keep h0 T1040.heap [] := Kp1037.trans K1040 all0
     have Z1072 := Nat.le_trans Z1038 K1040.1
     have hk1073 := Nat.le_trans hk1039 K1040.1
     refine Rch.st (fun _ k => st1040.trans k) ?_
     show Rch p e below T1040 (mkF m 155 #[.val (.int sp), .val (.int qc), .val (.int mc), .val (.int lb), .val (.int lq), .val (.int 0), .val (.int 1), .val (.ref a831), .val (.ref a854), .val (.ref ra_889), .val (.ref ra_975), .val (.ref a997), .unset, .unset] [(.ref ra_1040)]) _
     have f1074 : Arv Z T1040.heap t_1040 kt_1040 .byte (1 : Int32) [(.int (own_by na))] (.int (0 : Int32)) := by have z := fq1040_3; rw [show ((((0 : Int32) + (0 : Int32)) + (1 : Int32)) + (0 : Int32)) = (1 : Int32) from by decide, own_cat, own_t0, own_t1] at z; exact z
     refine w_astore (pc' := 157) (l' := #[.val (.int sp), .val (.int qc), .val (.int mc), .val (.int lb), .val (.int lq), .val (.int 0), .val (.int 1), .val (.ref a831), .val (.ref a854), .val (.ref ra_889), .val (.ref ra_975), .val (.ref a997), .val (.ref ra_1040), .unset]) X1040 hx hby at_155 rfl rfl rfl ?_
     refine w_aload (pc' := 159) X1040 hx hby at_157 rfl rfl rfl ?_
     refine w_nonnullYes (pc' := 164) X1040 hx hby at_159 rfl (fun q => nomatch q) (by decide) ?_
     refine w_iconst (pc' := 165) (v := 2) X1040 hx hby at_164 rfl rfl ?_
     refine w_iload (pc' := 167) X1040 hx hby at_165 rfl rfl ?_
     refine w_imul (pc' := 168) X1040 hx hby at_167 rfl ?_
     refine w_iload (pc' := 170) X1040 hx hby at_168 rfl rfl ?_
     refine w_iadd (pc' := 171) X1040 hx hby at_170 rfl ?_
     have r1075 : (((2 : Int32) * (0 : Int32)) + (1 : Int32)) = (1 : Int32) := by decide
     rw [r1075]
     show Rch p e below T1040 (mkF m 171 #[.val (.int sp), .val (.int qc), .val (.int mc), .val (.int lb), .val (.int lq), .val (.int 0), .val (.int 1), .val (.ref a831), .val (.ref a854), .val (.ref ra_889), .val (.ref ra_975), .val (.ref a997), .val (.ref ra_1040), .unset] [(.int 1)]) _
     refine w_istore (pc' := 173) (l' := #[.val (.int sp), .val (.int qc), .val (.int mc), .val (.int lb), .val (.int lq), .val (.int 0), .val (.int 1), .val (.ref a831), .val (.ref a854), .val (.ref ra_889), .val (.ref ra_975), .val (.ref a997), .val (.ref ra_1040), .val (.int 1)]) X1040 hx hby at_171 rfl rfl ?_
     refine w_aload (pc' := 175) X1040 hx hby at_173 rfl rfl rfl ?_
     obtain ⟨cq1076, kq1076, q1076a, q1076b, q1076c⟩ := isOf hZ889 (rfl : T1040.heap = T1040.heap) fq1040_0
     obtain ⟨_, _, ⟨T1076, L1076, k1076, n1076⟩, -, X1076, ⟨Lc1076, hQ1076, l1076, y1076, z1076⟩, st1076⟩ := X1040.virtualBack hx (y := (⟨"java/lang/String", "length", "()I"⟩ : MethodName)) (z := (⟨"java/lang/String", "length", "()I"⟩ : MethodName)) hown889 (mvT hZ889 (wi hw 153 rfl)) (mvT hZ889 (wi hw 67 rfl)) (notFace_of_selects (args := #[]) (mvT hZ889 (wi hw 69 rfl))) (mvT hZ889 (wi hw 69 rfl)) (mvT hZ889 (wi hw 68 rfl)) (by decide) (backOf (W := 0) (rm_length l Z a0 hw [] G1 ra_1040 0 t_1040 kt_1040 1 ([(.int (own_by na))]) (.int 0) T1040.heap h0.size Z1072 (O2) (P5) fq1040_1 (Or.inl rfl) fq1040_2 f1074 fq1040_0 Old1070) hZ889 (wi hw 70 rfl) (wi hw 6 rfl) (by decide) (by decide)) q1076a q1076c (g := (mkF m 175 #[.val (.int sp), .val (.int qc), .val (.int mc), .val (.int lb), .val (.int lq), .val (.int 0), .val (.int 1), .val (.ref a831), .val (.ref a854), .val (.ref ra_889), .val (.ref ra_975), .val (.ref a997), .val (.ref ra_1040), .val (.int 1)] [(.ref ra_1040)])) rfl (by rw [hml]; rfl) (Steps.refl _) (argsL := []) (rest := []) (lenOf pd___I rfl) rfl (by show 2 * 0 + _ ≤ _; exact Nat.le_of_eq rfl) (hb hby at_175) (fun _ _ => ⟨rfl, (rfl : T1040.heap = T1040.heap), (by decide : 11 + 0 ≤ _), (by decide : 57 + 0 ≤ _)⟩)
     dsimp only [Pt.U, Pt.locs, Pt.cells, Pt.slots] at X1076 l1076 y1076 z1076 st1076 hQ1076
     subst l1076 y1076 z1076
     obtain ⟨rfl, NQ1076, K1076⟩ := hQ1076
     have N1077 := Fr.app N1041 NQ1076
     refine Rch.st (fun _ k => st1076.trans k) ?_
     show Rch p e below T1076 (mkF m 178 #[.val (.int sp), .val (.int qc), .val (.int mc), .val (.int lb), .val (.int lq), .val (.int 0), .val (.int 1), .val (.ref a831), .val (.ref a854), .val (.ref ra_889), .val (.ref ra_975), .val (.ref a997), .val (.ref ra_1040), .val (.int 1)] [(.int ((1 : Int32) >>> ((0 : Int32) &&& 31)))]) _
     refine w_iload (pc' := 180) X1076 hx hby at_178 rfl rfl ?_
     refine w_icmpYes (pc' := 185) X1076 hx hby at_180 (XT.ii_eq_t (by decide)) (by decide) ?_
     refine w_aload (pc' := 187) X1076 hx hby at_185 rfl rfl rfl ?_
     refine w_iconst (pc' := 188) (v := 0) X1076 hx hby at_187 rfl rfl ?_
     refine w_iload (pc' := 190) X1076 hx hby at_188 rfl rfl ?_
     refine w_iload (pc' := 192) X1076 hx hby at_190 rfl rfl ?_
     refine w_iload (pc' := 194) X1076 hx hby at_192 rfl rfl ?_
     refine w_aload (pc' := 196) X1076 hx hby at_194 rfl rfl rfl ?_
     refine w_aload (pc' := 198) X1076 hx hby at_196 rfl rfl rfl ?_
     obtain ⟨_, _, ⟨T1078, L1078, k1078, n1078⟩, -, X1078, ⟨Lc1078, hQ1078, l1078, y1078, z1078⟩, st1078⟩ := Jvm.LawKit.callS X1076 hx (y := (⟨"com/example/alcance/alcance/IdentifiersQuotedPinLaw", "ok", "(Ljava/lang/String;IIII[C[C)Z"⟩ : MethodName)) hown889 (mvT hZ889 (wi hw 154 rfl)) (mvT hZ889 (wi hw 155 rfl)) (mvT hZ889 (wi hw 3 rfl)) (mvT hZ889 (wi hw 156 rfl)) (by decide) (backOf (W := 0) (rm_ok_B l Z a0 hw [] G1 G3 ra_1040 t_1040 kt_1040 1 ([(.int (own_by na))]) (.int 0) 0 0 1 a831 kc831 ([(.int qa), (.int qb)]) (.int 0) a854 kc854 ([(.int na), (.int nb), (.int nc)]) (.int 0) na 1 T1040.heap h0.size Z1072 (O2) (P5) (O4) (rG3) fq1040_0 fq1040_1 fq1040_2 f1074 f1058 f1059 (by decide) (by decide) (⟨by decide, by decide⟩) (by rfl) (ch_na) (by decide) (by decide) (by decide) (by rfl) Old1070) hZ889 (wi hw 156 rfl) (wi hw 3 rfl) (by decide) (by decide)) (g := (mkF m 198 #[.val (.int sp), .val (.int qc), .val (.int mc), .val (.int lb), .val (.int lq), .val (.int 0), .val (.int 1), .val (.ref a831), .val (.ref a854), .val (.ref ra_889), .val (.ref ra_975), .val (.ref a997), .val (.ref ra_1040), .val (.int 1)] [(.ref a854), (.ref a831), (.int 1), (.int 0), (.int 1), (.int 0), (.ref ra_1040)])) rfl (by rw [hml]; rfl) (argsL := [(.ref ra_1040), (.int 0), (.int 1), (.int 0), (.int 1), (.ref a831), (.ref a854)]) (rest := []) (lenOf pd__Ljava_lang_String_IIII_C_C_Z rfl) rfl (by show 2 * 0 + _ ≤ _; exact Nat.le_of_eq rfl) (hb hby at_198) (fun _ _ => ⟨rfl, K1076, (by decide : 11 + 0 ≤ _), (by decide : 57 + 0 ≤ _)⟩)
     dsimp only [Pt.U, Pt.locs, Pt.cells, Pt.slots] at X1078 l1078 y1078 z1078 st1078 hQ1078
     subst l1078 y1078 z1078
     obtain ⟨rfl, NQ1078, K1078⟩ := hQ1078
     have N1079 := Fr.app N1077 NQ1078
     refine Rch.st (fun _ k => st1078 _ k) ?_
     show Rch p e below T1078 (mkF m 201 #[.val (.int sp), .val (.int qc), .val (.int mc), .val (.int lb), .val (.int lq), .val (.int 0), .val (.int 1), .val (.ref a831), .val (.ref a854), .val (.ref ra_889), .val (.ref ra_975), .val (.ref a997), .val (.ref ra_1040), .val (.int 1)] [(.int 1)]) _
     refine w_ifNo (pc' := 204) X1078 hx hby at_201 (XT.i0_eq_f (by decide)) rfl ?_
     refine w_aload (pc' := 206) X1078 hx hby at_204 rfl rfl rfl ?_
     refine w_iconst (pc' := 207) (v := 1) X1078 hx hby at_206 rfl rfl ?_
     refine w_iload (pc' := 209) X1078 hx hby at_207 rfl rfl ?_
     refine w_iload (pc' := 211) X1078 hx hby at_209 rfl rfl ?_
     refine w_iload (pc' := 213) X1078 hx hby at_211 rfl rfl ?_
     refine w_aload (pc' := 215) X1078 hx hby at_213 rfl rfl rfl ?_
     refine w_aload (pc' := 217) X1078 hx hby at_215 rfl rfl rfl ?_
     obtain ⟨_, _, ⟨T1080, L1080, k1080, n1080⟩, -, X1080, ⟨Lc1080, hQ1080, l1080, y1080, z1080⟩, st1080⟩ := Jvm.LawKit.callS X1078 hx (y := (⟨"com/example/alcance/alcance/IdentifiersQuotedPinLaw", "ok", "(Ljava/lang/String;IIII[C[C)Z"⟩ : MethodName)) hown889 (mvT hZ889 (wi hw 154 rfl)) (mvT hZ889 (wi hw 155 rfl)) (mvT hZ889 (wi hw 3 rfl)) (mvT hZ889 (wi hw 156 rfl)) (by decide) (backOf (W := 0) (rm_ok_far l Z a0 hw [] ra_1040 1 1 0 1 a831 a854 T1040.heap h0.size Z1072 (by decide)) hZ889 (wi hw 156 rfl) (wi hw 3 rfl) (by decide) (by decide)) (g := (mkF m 217 #[.val (.int sp), .val (.int qc), .val (.int mc), .val (.int lb), .val (.int lq), .val (.int 0), .val (.int 1), .val (.ref a831), .val (.ref a854), .val (.ref ra_889), .val (.ref ra_975), .val (.ref a997), .val (.ref ra_1040), .val (.int 1)] [(.ref a854), (.ref a831), (.int 1), (.int 0), (.int 1), (.int 1), (.ref ra_1040)])) rfl (by rw [hml]; rfl) (argsL := [(.ref ra_1040), (.int 1), (.int 1), (.int 0), (.int 1), (.ref a831), (.ref a854)]) (rest := []) (lenOf pd__Ljava_lang_String_IIII_C_C_Z rfl) rfl (by show 2 * 0 + _ ≤ _; exact Nat.le_of_eq rfl) (hb hby at_217) (fun _ _ => ⟨rfl, K1078, (by decide : 11 + 0 ≤ _), (by decide : 57 + 0 ≤ _)⟩)
     dsimp only [Pt.U, Pt.locs, Pt.cells, Pt.slots] at X1080 l1080 y1080 z1080 st1080 hQ1080
     subst l1080 y1080 z1080
     obtain ⟨rfl, NQ1080, K1080⟩ := hQ1080
     have N1081 := Fr.app N1079 NQ1080
     refine Rch.st (fun _ k => st1080 _ k) ?_
     show Rch p e below T1080 (mkF m 220 #[.val (.int sp), .val (.int qc), .val (.int mc), .val (.int lb), .val (.int lq), .val (.int 0), .val (.int 1), .val (.ref a831), .val (.ref a854), .val (.ref ra_889), .val (.ref ra_975), .val (.ref a997), .val (.ref ra_1040), .val (.int 1)] [(.int 1)]) _
     refine w_ifNo (pc' := 223) X1080 hx hby at_220 (XT.i0_eq_f (by decide)) rfl ?_
     refine w_aload (pc' := 225) X1080 hx hby at_223 rfl rfl rfl ?_
     refine w_iconst (pc' := 226) (v := 2) X1080 hx hby at_225 rfl rfl ?_
     refine w_iload (pc' := 228) X1080 hx hby at_226 rfl rfl ?_
     refine w_iload (pc' := 230) X1080 hx hby at_228 rfl rfl ?_
     refine w_iload (pc' := 232) X1080 hx hby at_230 rfl rfl ?_
     refine w_aload (pc' := 234) X1080 hx hby at_232 rfl rfl rfl ?_
     refine w_aload (pc' := 236) X1080 hx hby at_234 rfl rfl rfl ?_
     obtain ⟨_, _, ⟨T1082, L1082, k1082, n1082⟩, -, X1082, ⟨Lc1082, hQ1082, l1082, y1082, z1082⟩, st1082⟩ := Jvm.LawKit.callS X1080 hx (y := (⟨"com/example/alcance/alcance/IdentifiersQuotedPinLaw", "ok", "(Ljava/lang/String;IIII[C[C)Z"⟩ : MethodName)) hown889 (mvT hZ889 (wi hw 154 rfl)) (mvT hZ889 (wi hw 155 rfl)) (mvT hZ889 (wi hw 3 rfl)) (mvT hZ889 (wi hw 156 rfl)) (by decide) (backOf (W := 0) (rm_ok_far l Z a0 hw [] ra_1040 2 1 0 1 a831 a854 T1040.heap h0.size Z1072 (by decide)) hZ889 (wi hw 156 rfl) (wi hw 3 rfl) (by decide) (by decide)) (g := (mkF m 236 #[.val (.int sp), .val (.int qc), .val (.int mc), .val (.int lb), .val (.int lq), .val (.int 0), .val (.int 1), .val (.ref a831), .val (.ref a854), .val (.ref ra_889), .val (.ref ra_975), .val (.ref a997), .val (.ref ra_1040), .val (.int 1)] [(.ref a854), (.ref a831), (.int 1), (.int 0), (.int 1), (.int 2), (.ref ra_1040)])) rfl (by rw [hml]; rfl) (argsL := [(.ref ra_1040), (.int 2), (.int 1), (.int 0), (.int 1), (.ref a831), (.ref a854)]) (rest := []) (lenOf pd__Ljava_lang_String_IIII_C_C_Z rfl) rfl (by show 2 * 0 + _ ≤ _; exact Nat.le_of_eq rfl) (hb hby at_236) (fun _ _ => ⟨rfl, K1080, (by decide : 11 + 0 ≤ _), (by decide : 57 + 0 ≤ _)⟩)
     dsimp only [Pt.U, Pt.locs, Pt.cells, Pt.slots] at X1082 l1082 y1082 z1082 st1082 hQ1082
     subst l1082 y1082 z1082
     obtain ⟨rfl, NQ1082, K1082⟩ := hQ1082
     have N1083 := Fr.app N1081 NQ1082
     refine Rch.st (fun _ k => st1082 _ k) ?_
     show Rch p e below T1082 (mkF m 239 #[.val (.int sp), .val (.int qc), .val (.int mc), .val (.int lb), .val (.int lq), .val (.int 0), .val (.int 1), .val (.ref a831), .val (.ref a854), .val (.ref ra_889), .val (.ref ra_975), .val (.ref a997), .val (.ref ra_1040), .val (.int 1)] [(.int 1)]) _
     refine w_ifNo (pc' := 242) X1082 hx hby at_239 (XT.i0_eq_f (by decide)) rfl ?_
     refine w_aload (pc' := 244) X1082 hx hby at_242 rfl rfl rfl ?_
     refine w_iconst (pc' := 245) (v := 3) X1082 hx hby at_244 rfl rfl ?_
     refine w_iload (pc' := 247) X1082 hx hby at_245 rfl rfl ?_
     refine w_iload (pc' := 249) X1082 hx hby at_247 rfl rfl ?_
     refine w_iload (pc' := 251) X1082 hx hby at_249 rfl rfl ?_
     refine w_aload (pc' := 253) X1082 hx hby at_251 rfl rfl rfl ?_
     refine w_aload (pc' := 255) X1082 hx hby at_253 rfl rfl rfl ?_
     obtain ⟨_, _, ⟨T1084, L1084, k1084, n1084⟩, -, X1084, ⟨Lc1084, hQ1084, l1084, y1084, z1084⟩, st1084⟩ := Jvm.LawKit.callS X1082 hx (y := (⟨"com/example/alcance/alcance/IdentifiersQuotedPinLaw", "ok", "(Ljava/lang/String;IIII[C[C)Z"⟩ : MethodName)) hown889 (mvT hZ889 (wi hw 154 rfl)) (mvT hZ889 (wi hw 155 rfl)) (mvT hZ889 (wi hw 3 rfl)) (mvT hZ889 (wi hw 156 rfl)) (by decide) (backOf (W := 0) (rm_ok_far l Z a0 hw [] ra_1040 3 1 0 1 a831 a854 T1040.heap h0.size Z1072 (by decide)) hZ889 (wi hw 156 rfl) (wi hw 3 rfl) (by decide) (by decide)) (g := (mkF m 255 #[.val (.int sp), .val (.int qc), .val (.int mc), .val (.int lb), .val (.int lq), .val (.int 0), .val (.int 1), .val (.ref a831), .val (.ref a854), .val (.ref ra_889), .val (.ref ra_975), .val (.ref a997), .val (.ref ra_1040), .val (.int 1)] [(.ref a854), (.ref a831), (.int 1), (.int 0), (.int 1), (.int 3), (.ref ra_1040)])) rfl (by rw [hml]; rfl) (argsL := [(.ref ra_1040), (.int 3), (.int 1), (.int 0), (.int 1), (.ref a831), (.ref a854)]) (rest := []) (lenOf pd__Ljava_lang_String_IIII_C_C_Z rfl) rfl (by show 2 * 0 + _ ≤ _; exact Nat.le_of_eq rfl) (hb hby at_255) (fun _ _ => ⟨rfl, K1082, (by decide : 11 + 0 ≤ _), (by decide : 57 + 0 ≤ _)⟩)
     dsimp only [Pt.U, Pt.locs, Pt.cells, Pt.slots] at X1084 l1084 y1084 z1084 st1084 hQ1084
     subst l1084 y1084 z1084
     obtain ⟨rfl, NQ1084, K1084⟩ := hQ1084
     have N1085 := Fr.app N1083 NQ1084
     refine Rch.st (fun _ k => st1084 _ k) ?_
     show Rch p e below T1084 (mkF m 258 #[.val (.int sp), .val (.int qc), .val (.int mc), .val (.int lb), .val (.int lq), .val (.int 0), .val (.int 1), .val (.ref a831), .val (.ref a854), .val (.ref ra_889), .val (.ref ra_975), .val (.ref a997), .val (.ref ra_1040), .val (.int 1)] [(.int 1)]) _
     refine w_ifNo (pc' := 261) X1084 hx hby at_258 (XT.i0_eq_f (by decide)) rfl ?_
     refine w_aload (pc' := 263) X1084 hx hby at_261 rfl rfl rfl ?_
     refine w_iconst (pc' := 264) (v := 4) X1084 hx hby at_263 rfl rfl ?_
     refine w_iload (pc' := 266) X1084 hx hby at_264 rfl rfl ?_
     refine w_iload (pc' := 268) X1084 hx hby at_266 rfl rfl ?_
     refine w_iload (pc' := 270) X1084 hx hby at_268 rfl rfl ?_
     refine w_aload (pc' := 272) X1084 hx hby at_270 rfl rfl rfl ?_
     refine w_aload (pc' := 274) X1084 hx hby at_272 rfl rfl rfl ?_
     obtain ⟨_, _, ⟨T1086, L1086, k1086, n1086⟩, -, X1086, ⟨Lc1086, hQ1086, l1086, y1086, z1086⟩, st1086⟩ := Jvm.LawKit.callS X1084 hx (y := (⟨"com/example/alcance/alcance/IdentifiersQuotedPinLaw", "ok", "(Ljava/lang/String;IIII[C[C)Z"⟩ : MethodName)) hown889 (mvT hZ889 (wi hw 154 rfl)) (mvT hZ889 (wi hw 155 rfl)) (mvT hZ889 (wi hw 3 rfl)) (mvT hZ889 (wi hw 156 rfl)) (by decide) (backOf (W := 0) (rm_ok_far l Z a0 hw [] ra_1040 4 1 0 1 a831 a854 T1040.heap h0.size Z1072 (by decide)) hZ889 (wi hw 156 rfl) (wi hw 3 rfl) (by decide) (by decide)) (g := (mkF m 274 #[.val (.int sp), .val (.int qc), .val (.int mc), .val (.int lb), .val (.int lq), .val (.int 0), .val (.int 1), .val (.ref a831), .val (.ref a854), .val (.ref ra_889), .val (.ref ra_975), .val (.ref a997), .val (.ref ra_1040), .val (.int 1)] [(.ref a854), (.ref a831), (.int 1), (.int 0), (.int 1), (.int 4), (.ref ra_1040)])) rfl (by rw [hml]; rfl) (argsL := [(.ref ra_1040), (.int 4), (.int 1), (.int 0), (.int 1), (.ref a831), (.ref a854)]) (rest := []) (lenOf pd__Ljava_lang_String_IIII_C_C_Z rfl) rfl (by show 2 * 0 + _ ≤ _; exact Nat.le_of_eq rfl) (hb hby at_274) (fun _ _ => ⟨rfl, K1084, (by decide : 11 + 0 ≤ _), (by decide : 57 + 0 ≤ _)⟩)
     dsimp only [Pt.U, Pt.locs, Pt.cells, Pt.slots] at X1086 l1086 y1086 z1086 st1086 hQ1086
     subst l1086 y1086 z1086
     obtain ⟨rfl, NQ1086, K1086⟩ := hQ1086
     have N1087 := Fr.app N1085 NQ1086
     refine Rch.st (fun _ k => st1086 _ k) ?_
     show Rch p e below T1086 (mkF m 277 #[.val (.int sp), .val (.int qc), .val (.int mc), .val (.int lb), .val (.int lq), .val (.int 0), .val (.int 1), .val (.ref a831), .val (.ref a854), .val (.ref ra_889), .val (.ref ra_975), .val (.ref a997), .val (.ref ra_1040), .val (.int 1)] [(.int 1)]) _
     refine w_ifNo (pc' := 280) X1086 hx hby at_277 (XT.i0_eq_f (by decide)) rfl ?_
     refine w_aload (pc' := 282) X1086 hx hby at_280 rfl rfl rfl ?_
     refine w_iconst (pc' := 283) (v := 5) X1086 hx hby at_282 rfl rfl ?_
     refine w_iload (pc' := 285) X1086 hx hby at_283 rfl rfl ?_
     refine w_iload (pc' := 287) X1086 hx hby at_285 rfl rfl ?_
     refine w_iload (pc' := 289) X1086 hx hby at_287 rfl rfl ?_
     refine w_aload (pc' := 291) X1086 hx hby at_289 rfl rfl rfl ?_
     refine w_aload (pc' := 293) X1086 hx hby at_291 rfl rfl rfl ?_
     obtain ⟨_, _, ⟨T1088, L1088, k1088, n1088⟩, -, X1088, ⟨Lc1088, hQ1088, l1088, y1088, z1088⟩, st1088⟩ := Jvm.LawKit.callS X1086 hx (y := (⟨"com/example/alcance/alcance/IdentifiersQuotedPinLaw", "ok", "(Ljava/lang/String;IIII[C[C)Z"⟩ : MethodName)) hown889 (mvT hZ889 (wi hw 154 rfl)) (mvT hZ889 (wi hw 155 rfl)) (mvT hZ889 (wi hw 3 rfl)) (mvT hZ889 (wi hw 156 rfl)) (by decide) (backOf (W := 0) (rm_ok_far l Z a0 hw [] ra_1040 5 1 0 1 a831 a854 T1040.heap h0.size Z1072 (by decide)) hZ889 (wi hw 156 rfl) (wi hw 3 rfl) (by decide) (by decide)) (g := (mkF m 293 #[.val (.int sp), .val (.int qc), .val (.int mc), .val (.int lb), .val (.int lq), .val (.int 0), .val (.int 1), .val (.ref a831), .val (.ref a854), .val (.ref ra_889), .val (.ref ra_975), .val (.ref a997), .val (.ref ra_1040), .val (.int 1)] [(.ref a854), (.ref a831), (.int 1), (.int 0), (.int 1), (.int 5), (.ref ra_1040)])) rfl (by rw [hml]; rfl) (argsL := [(.ref ra_1040), (.int 5), (.int 1), (.int 0), (.int 1), (.ref a831), (.ref a854)]) (rest := []) (lenOf pd__Ljava_lang_String_IIII_C_C_Z rfl) rfl (by show 2 * 0 + _ ≤ _; exact Nat.le_of_eq rfl) (hb hby at_293) (fun _ _ => ⟨rfl, K1086, (by decide : 11 + 0 ≤ _), (by decide : 57 + 0 ≤ _)⟩)
     dsimp only [Pt.U, Pt.locs, Pt.cells, Pt.slots] at X1088 l1088 y1088 z1088 st1088 hQ1088
     subst l1088 y1088 z1088
     obtain ⟨rfl, NQ1088, K1088⟩ := hQ1088
     have N1089 := Fr.app N1087 NQ1088
     refine Rch.st (fun _ k => st1088 _ k) ?_
     show Rch p e below T1088 (mkF m 296 #[.val (.int sp), .val (.int qc), .val (.int mc), .val (.int lb), .val (.int lq), .val (.int 0), .val (.int 1), .val (.ref a831), .val (.ref a854), .val (.ref ra_889), .val (.ref ra_975), .val (.ref a997), .val (.ref ra_1040), .val (.int 1)] [(.int 1)]) _
     refine w_ifNo (pc' := 299) X1088 hx hby at_296 (XT.i0_eq_f (by decide)) rfl ?_
     refine w_aload (pc' := 301) X1088 hx hby at_299 rfl rfl rfl ?_
     refine w_bipush (pc' := 303) (v := 6) X1088 hx hby at_301 rfl rfl ?_
     refine w_iload (pc' := 305) X1088 hx hby at_303 rfl rfl ?_
     refine w_iload (pc' := 307) X1088 hx hby at_305 rfl rfl ?_
     refine w_iload (pc' := 309) X1088 hx hby at_307 rfl rfl ?_
     refine w_aload (pc' := 311) X1088 hx hby at_309 rfl rfl rfl ?_
     refine w_aload (pc' := 313) X1088 hx hby at_311 rfl rfl rfl ?_
     obtain ⟨_, _, ⟨T1090, L1090, k1090, n1090⟩, -, X1090, ⟨Lc1090, hQ1090, l1090, y1090, z1090⟩, st1090⟩ := Jvm.LawKit.callS X1088 hx (y := (⟨"com/example/alcance/alcance/IdentifiersQuotedPinLaw", "ok", "(Ljava/lang/String;IIII[C[C)Z"⟩ : MethodName)) hown889 (mvT hZ889 (wi hw 154 rfl)) (mvT hZ889 (wi hw 155 rfl)) (mvT hZ889 (wi hw 3 rfl)) (mvT hZ889 (wi hw 156 rfl)) (by decide) (backOf (W := 0) (rm_ok_far l Z a0 hw [] ra_1040 6 1 0 1 a831 a854 T1040.heap h0.size Z1072 (by decide)) hZ889 (wi hw 156 rfl) (wi hw 3 rfl) (by decide) (by decide)) (g := (mkF m 313 #[.val (.int sp), .val (.int qc), .val (.int mc), .val (.int lb), .val (.int lq), .val (.int 0), .val (.int 1), .val (.ref a831), .val (.ref a854), .val (.ref ra_889), .val (.ref ra_975), .val (.ref a997), .val (.ref ra_1040), .val (.int 1)] [(.ref a854), (.ref a831), (.int 1), (.int 0), (.int 1), (.int 6), (.ref ra_1040)])) rfl (by rw [hml]; rfl) (argsL := [(.ref ra_1040), (.int 6), (.int 1), (.int 0), (.int 1), (.ref a831), (.ref a854)]) (rest := []) (lenOf pd__Ljava_lang_String_IIII_C_C_Z rfl) rfl (by show 2 * 0 + _ ≤ _; exact Nat.le_of_eq rfl) (hb hby at_313) (fun _ _ => ⟨rfl, K1088, (by decide : 11 + 0 ≤ _), (by decide : 57 + 0 ≤ _)⟩)
     dsimp only [Pt.U, Pt.locs, Pt.cells, Pt.slots] at X1090 l1090 y1090 z1090 st1090 hQ1090
     subst l1090 y1090 z1090
     obtain ⟨rfl, NQ1090, K1090⟩ := hQ1090
     have N1091 := Fr.app N1089 NQ1090
     refine Rch.st (fun _ k => st1090 _ k) ?_
     show Rch p e below T1090 (mkF m 316 #[.val (.int sp), .val (.int qc), .val (.int mc), .val (.int lb), .val (.int lq), .val (.int 0), .val (.int 1), .val (.ref a831), .val (.ref a854), .val (.ref ra_889), .val (.ref ra_975), .val (.ref a997), .val (.ref ra_1040), .val (.int 1)] [(.int 1)]) _
     refine w_ifNo (pc' := 319) X1090 hx hby at_316 (XT.i0_eq_f (by decide)) rfl ?_
     refine w_iconst (pc' := 320) (v := 1) X1090 hx hby at_319 rfl rfl ?_
     refine w_goto (pc' := 324) X1090 hx hby at_320 (by decide) ?_
     exact Rch.retVW X1090 hx hS889 (by rw [K1090]; exact hk1073) Bd.returns rfl (Or.inl ⟨rfl, by simp, _, rfl⟩) (hb hby at_324) (by rw [K1090]; exact ⟨rfl, (own_Fr Z0 N1091), Kp1071, own_ib_mono (own_ib (s := s.setVm T889.vm) IQ889 X1090.warmed) (by decide)⟩) (by decide) (by decide)
    ·skip
     show Rch p e below T889 (mkF m 129 #[.val (.int sp), .val (.int qc), .val (.int mc), .val (.int lb), .val (.int lq), .val (.int 0), .val (.int 2), .val (.ref a831), .val (.ref a854), .val (.ref ra_889), .unset, .unset, .unset, .unset] [(.int 0), (.ref a854), (.ref a831), (.int 2)]) _
     obtain ⟨_, _, ⟨T1092, L1092, k1092, n1092⟩, -, X1092, ⟨Lc1092, hQ1092, l1092, y1092, z1092⟩, st1092⟩ := Jvm.LawKit.callS X889w hx (y := (⟨"com/example/alcance/alcance/IdentifiersQuotedPinLaw", "make", "(I[C[CZ)Ljava/lang/String;"⟩ : MethodName)) hown889 (mvT hZ889 (wi hw 1 rfl)) (mvT hZ889 (wi hw 2 rfl)) (mvT hZ889 (wi hw 3 rfl)) (mvT hZ889 (wi hw 4 rfl)) (by decide) (backOf (W := 0) (rm_mk_0_2 l Z a0 hw [] G1 a831 a854 kc854 na nb nc T889.heap h0.size Z895 (O2) (P5) f892 (ch_na) (ch_nb) Old893) hZ889 (wi hw 4 rfl) (wi hw 3 rfl) (by decide) (by decide)) (g := (mkF m 129 #[.val (.int sp), .val (.int qc), .val (.int mc), .val (.int lb), .val (.int lq), .val (.int 0), .val (.int 2), .val (.ref a831), .val (.ref a854), .val (.ref ra_889), .unset, .unset, .unset, .unset] [(.int 0), (.ref a854), (.ref a831), (.int 2)])) rfl (by rw [hml]; rfl) (argsL := [(.int 2), (.ref a831), (.ref a854), (.int 0)]) (rest := []) (lenOf pd__I_C_CZ_Ljava_lang_String_ rfl) rfl (by show 2 * 0 + _ ≤ _; exact Nat.le_of_eq rfl) (hb hby at_129) (fun _ _ => ⟨rfl, (rfl : T889.heap = T889.heap), (by decide : 4 + 3 ≤ _), (by decide : 9 + 8 ≤ _)⟩)
     dsimp only [Pt.U, Pt.locs, Pt.cells, Pt.slots] at X1092 l1092 y1092 z1092 st1092 hQ1092
     subst l1092 y1092 z1092
     obtain ⟨ra_1092, t_1092, kt_1092, rfl, NQ1092, K1092, pq1092_0, pq1092_1, fq1092_0, fq1092_1, fq1092_2, fq1092_3⟩ := hQ1092
     have N1093 := Fr.app N890 NQ1092
     have f1104 := f891.keep K1092 nin0
     have f1105 := f892.keep K1092 nin0
     have f1106 := fq889_0.keep K1092
     have f1107 := fq889_1.keep K1092 nin0
     have f1108 := fq889_2.keep K1092 nin0
     have f1109 := fq889_3.keep K1092 nin0
     have Old1110 := Old893.keep K1092 all0
     have Kp1111 : Keep h0 T1092.heap [] := Kp894.trans K1092 all0
     have Z1112 := Nat.le_trans Z895 K1092.1
     have hk1113 := Nat.le_trans hk889 K1092.1
     refine Rch.st (fun _ k => st1092 _ k) ?_
     show Rch p e below T1092 (mkF m 132 #[.val (.int sp), .val (.int qc), .val (.int mc), .val (.int lb), .val (.int lq), .val (.int 0), .val (.int 2), .val (.ref a831), .val (.ref a854), .val (.ref ra_889), .unset, .unset, .unset, .unset] [(.ref ra_1092)]) _
     refine w_astore (pc' := 134) (l' := #[.val (.int sp), .val (.int qc), .val (.int mc), .val (.int lb), .val (.int lq), .val (.int 0), .val (.int 2), .val (.ref a831), .val (.ref a854), .val (.ref ra_889), .val (.ref ra_1092), .unset, .unset, .unset]) X1092 hx hby at_132 rfl rfl rfl ?_
     obtain ⟨T1114, h1114, X1114, e1114, E1114, A1114, D1114, -, st1114⟩ := newO X1092 hx hZ889 hown889 (wi hw 13 rfl) (wi hw 14 rfl) (wi hw 15 rfl) (rfl : T1092.heap = T1092.heap) (g := (mkF m 134 #[.val (.int sp), .val (.int qc), .val (.int mc), .val (.int lb), .val (.int lq), .val (.int 0), .val (.int 2), .val (.ref a831), .val (.ref a854), .val (.ref ra_889), .val (.ref ra_1092), .unset, .unset, .unset] [])) rfl (hb hby at_134) (by decide) (by decide)
     obtain ⟨a1114, g1114⟩ : ∃ z, z = T1092.heap.size := ⟨_, rfl⟩
     rw [← g1114] at A1114 D1114 st1114
     have ne1115 : a831 ≠ a1114 := by rw [g1114]; exact Nat.ne_of_lt f1104.lt
     have ne1116 : a854 ≠ a1114 := by rw [g1114]; exact Nat.ne_of_lt f1105.lt
     have ne1117 : ra_1092 ≠ a1114 := by rw [g1114]; exact Nat.ne_of_lt fq1092_0.lt
     have ne1118 : ra_889 ≠ a1114 := by rw [g1114]; exact Nat.ne_of_lt f1106.lt
     have ne1119 : t_1092 ≠ a1114 := by rw [g1114]; exact Nat.ne_of_lt fq1092_3.lt
     have ne1120 : t_889 ≠ a1114 := by rw [g1114]; exact Nat.ne_of_lt f1109.lt
     have ge1121 : h0.size ≤ a1114 := Nat.le_trans Z1112 (Nat.le_of_eq g1114.symm)
     have hk1123 := Nat.le_trans hk1113 E1114.1
     have f1124 := f1104.ext E1114
     have f1125 := f1105.ext E1114
     have f1126 := f1106.ext E1114
     have f1127 := f1107.ext E1114
     have f1128 := f1108.ext E1114
     have f1129 := f1109.ext E1114
     have f1130 := fq1092_0.ext E1114
     have f1131 := fq1092_1.ext E1114
     have f1132 := fq1092_2.ext E1114
     have f1133 := fq1092_3.ext E1114
     have Old1134 := Old1110.ext E1114
     have Z1135 := Nat.le_trans Z1112 E1114.1
     have Kp1136 : Keep h0 h1114 [] := Kp1111.ext E1114
     have f1137 : Fld Z h1114 a1114 "com/example/alcance/alcance/Identifiers" "lowersBare" "Z" (.int (0 : Int32)) := D1114 (Or.inr (wi hw 28 rfl)) (ty := .boolean) (by decide)
     have f1138 : Fld Z h1114 a1114 "com/example/alcance/alcance/Identifiers" "lowersQuoted" "Z" (.int (0 : Int32)) := D1114 (Or.inr (wi hw 30 rfl)) (ty := .boolean) (by decide)
     have f1139 : Fld Z h1114 a1114 "com/example/alcance/alcance/Identifiers" "quote" "Ljava/lang/String;" .null := D1114 (Or.inr (wi hw 32 rfl)) (ty := (.object "java/lang/String")) (by decide)
     refine Rch.st (fun _ k => st1114 _ k) ?_
     show Rch p e below T1114 (mkF m 137 #[.val (.int sp), .val (.int qc), .val (.int mc), .val (.int lb), .val (.int lq), .val (.int 0), .val (.int 2), .val (.ref a831), .val (.ref a854), .val (.ref ra_889), .val (.ref ra_1092), .unset, .unset, .unset] [(.ref a1114)]) _
     refine w_dup (pc' := 138) X1114 hx hby at_137 rfl rfl ?_
     refine w_iloadN (pc' := 139) X1114 hx hby at_138 rfl rfl ?_
     refine w_iload (pc' := 141) X1114 hx hby at_139 rfl rfl ?_
     refine w_aload (pc' := 143) X1114 hx hby at_141 rfl rfl rfl ?_
     obtain ⟨_, _, ⟨T1140, L1140, k1140, n1140⟩, -, X1140, ⟨Lc1140, hQ1140, l1140, y1140, z1140⟩, st1140⟩ := X1114.specialBack hx (y := (⟨"com/example/alcance/alcance/Identifiers", "<init>", "(ZZLjava/lang/String;)V"⟩ : MethodName)) rfl hown889 (mvT hZ889 (wi hw 16 rfl)) (mvT hZ889 (wi hw 17 rfl)) (mvT hZ889 (wi hw 18 rfl)) (by decide) (backOf (W := 1) (rm_id l Z a0 hw [] a1114 lb lq ra_889 h1114 h0.size Z1135 A1114 f1137 f1138 f1139 (ge1121) (hlb) (hlq)) hZ889 (wi hw 18 rfl) (wi hw 15 rfl) (by decide) (by decide)) (g := (mkF m 143 #[.val (.int sp), .val (.int qc), .val (.int mc), .val (.int lb), .val (.int lq), .val (.int 0), .val (.int 2), .val (.ref a831), .val (.ref a854), .val (.ref ra_889), .val (.ref ra_1092), .unset, .unset, .unset] [(.ref ra_889), (.int lq), (.int lb), (.ref a1114), (.ref a1114)])) rfl (by rw [hml]; rfl) (Steps.refl _) (a := a1114) (argsL := [(.int lb), (.int lq), (.ref ra_889)]) (rest := [(.ref a1114)]) (lenOf pd__ZZLjava_lang_String__V rfl) rfl (by show 2 * 0 + _ ≤ _; exact Nat.le_of_eq rfl) (hb hby at_143) (fun _ _ => ⟨rfl, e1114, (by decide : 8 + 0 ≤ _), (by decide : 20 + 0 ≤ _)⟩)
     dsimp only [Pt.U, Pt.locs, Pt.cells, Pt.slots] at X1140 l1140 y1140 z1140 st1140 hQ1140
     subst l1140 y1140 z1140
     obtain ⟨rfl, NQ1140, K1140, fq1140_0⟩ := hQ1140
     have N1141 := Fr.app N1093 NQ1140
     have f1142 := f1124.keep K1140 (ninS ne1115 nin0)
     have f1143 := f1125.keep K1140 (ninS ne1116 nin0)
     have f1144 := f1126.keep K1140
     have f1145 := f1127.keep K1140 (ninS ne1118 nin0)
     have f1146 := f1128.keep K1140 (ninS ne1118 nin0)
     have f1147 := f1129.keep K1140 (ninS ne1120 nin0)
     have f1148 := f1130.keep K1140
     have f1149 := f1131.keep K1140 (ninS ne1117 nin0)
     have f1150 := f1132.keep K1140 (ninS ne1117 nin0)
     have f1151 := f1133.keep K1140 (ninS ne1119 nin0)
     have f1152 := A1114.keep K1140
     have Old1153 := Old1134.keep K1140 (allS ge1121 all0)
     have Kp1154 : Keep h0 T1140.heap [] := Kp1136.trans K1140 (allS (Or.inr (Nat.le_trans Kp1111.1 (Nat.le_of_eq g1114.symm))) all0)
     have Z1155 := Nat.le_trans Z1135 K1140.1
     have hk1156 := Nat.le_trans hk1123 K1140.1
     refine Rch.st (fun _ k => st1140.trans k) ?_
     show Rch p e below T1140 (mkF m 146 #[.val (.int sp), .val (.int qc), .val (.int mc), .val (.int lb), .val (.int lq), .val (.int 0), .val (.int 2), .val (.ref a831), .val (.ref a854), .val (.ref ra_889), .val (.ref ra_1092), .unset, .unset, .unset] [(.ref a1114)]) _
     refine w_astore (pc' := 148) (l' := #[.val (.int sp), .val (.int qc), .val (.int mc), .val (.int lb), .val (.int lq), .val (.int 0), .val (.int 2), .val (.ref a831), .val (.ref a854), .val (.ref ra_889), .val (.ref ra_1092), .val (.ref a1114), .unset, .unset]) X1140 hx hby at_146 rfl rfl rfl ?_
     refine w_aload (pc' := 150) X1140 hx hby at_148 rfl rfl rfl ?_
     refine w_aload (pc' := 152) X1140 hx hby at_150 rfl rfl rfl ?_
     obtain ⟨cq1157, kq1157, q1157a, q1157b, q1157c⟩ := isOf hZ889 (rfl : T1140.heap = T1140.heap) f1152
     obtain ⟨_, _, ⟨T1157, L1157, k1157, n1157⟩, -, X1157, ⟨Lc1157, hQ1157, l1157, y1157, z1157⟩, st1157⟩ := X1140.virtualBack hx (y := (⟨"com/example/alcance/alcance/Identifiers", "quoted", "(Ljava/lang/String;)Ljava/lang/String;"⟩ : MethodName)) (z := (⟨"com/example/alcance/alcance/Identifiers", "quoted", "(Ljava/lang/String;)Ljava/lang/String;"⟩ : MethodName)) hown889 (mvT hZ889 (wi hw 33 rfl)) (mvT hZ889 (wi hw 34 rfl)) (notFace_of_selects (args := #[]) (mvT hZ889 (wi hw 36 rfl))) (mvT hZ889 (wi hw 36 rfl)) (mvT hZ889 (wi hw 35 rfl)) (by decide) (backOf (W := 0) (rm_qu l Z a0 hw [] G1 a1114 ra_889 t_889 kt_889 0 ([]) (.int 0) ra_1092 t_1092 kt_1092 2 ([(.int (own_by na)), (.int (own_by nb))]) (.int 0) T1140.heap h0.size Z1155 (O2) (P5) fq1140_0 f1144 f1145 f1146 f1147 f1148 f1149 f1150 f1151 (by decide) (by decide) (by decide) (by decide) (by decide) (by decide) (by decide) (by decide) (by decide) (by decide) (by decide) (by decide) (by decide) (by decide) Old1153) hZ889 (wi hw 37 rfl) (wi hw 15 rfl) (by decide) (by decide)) q1157a q1157c (g := (mkF m 152 #[.val (.int sp), .val (.int qc), .val (.int mc), .val (.int lb), .val (.int lq), .val (.int 0), .val (.int 2), .val (.ref a831), .val (.ref a854), .val (.ref ra_889), .val (.ref ra_1092), .val (.ref a1114), .unset, .unset] [(.ref ra_1092), (.ref a1114)])) rfl (by rw [hml]; rfl) (Steps.refl _) (argsL := [(.ref ra_1092)]) (rest := []) (lenOf pd__Ljava_lang_String__Ljava_lang_String_ rfl) rfl (by show 2 * 0 + _ ≤ _; exact Nat.le_of_eq rfl) (hb hby at_152) (fun _ _ => ⟨rfl, (rfl : T1140.heap = T1140.heap), (by decide : 8 + 4 ≤ _), (by decide : 20 + 40 ≤ _)⟩)
     dsimp only [Pt.U, Pt.locs, Pt.cells, Pt.slots] at X1157 l1157 y1157 z1157 st1157 hQ1157
     subst l1157 y1157 z1157
     obtain ⟨ra_1157, t_1157, kt_1157, rfl, NQ1157, K1157, pq1157_0, pq1157_1, fq1157_0, fq1157_1, fq1157_2, fq1157_3⟩ := hQ1157
     have N1158 := Fr.app N1141 NQ1157
     have f1175 := f1142.keep K1157 nin0
     have f1176 := f1143.keep K1157 nin0
     have Old1187 := Old1153.keep K1157 all0
     have Kp1188 : Keep h0 T1157.heap [] := Kp1154.trans K1157 all0
     have Z1189 := Nat.le_trans Z1155 K1157.1
     have hk1190 := Nat.le_trans hk1156 K1157.1
     refine Rch.st (fun _ k => st1157.trans k) ?_
     show Rch p e below T1157 (mkF m 155 #[.val (.int sp), .val (.int qc), .val (.int mc), .val (.int lb), .val (.int lq), .val (.int 0), .val (.int 2), .val (.ref a831), .val (.ref a854), .val (.ref ra_889), .val (.ref ra_1092), .val (.ref a1114), .unset, .unset] [(.ref ra_1157)]) _
     have f1191 : Arv Z T1157.heap t_1157 kt_1157 .byte (2 : Int32) [(.int (own_by na)), (.int (own_by nb))] (.int (0 : Int32)) := by have z := fq1157_3; rw [show ((((0 : Int32) + (0 : Int32)) + (2 : Int32)) + (0 : Int32)) = (2 : Int32) from by decide, own_cat, own_t0, own_t2] at z; exact z
     refine w_astore (pc' := 157) (l' := #[.val (.int sp), .val (.int qc), .val (.int mc), .val (.int lb), .val (.int lq), .val (.int 0), .val (.int 2), .val (.ref a831), .val (.ref a854), .val (.ref ra_889), .val (.ref ra_1092), .val (.ref a1114), .val (.ref ra_1157), .unset]) X1157 hx hby at_155 rfl rfl rfl ?_
     refine w_aload (pc' := 159) X1157 hx hby at_157 rfl rfl rfl ?_
     refine w_nonnullYes (pc' := 164) X1157 hx hby at_159 rfl (fun q => nomatch q) (by decide) ?_
     refine w_iconst (pc' := 165) (v := 2) X1157 hx hby at_164 rfl rfl ?_
     refine w_iload (pc' := 167) X1157 hx hby at_165 rfl rfl ?_
     refine w_imul (pc' := 168) X1157 hx hby at_167 rfl ?_
     refine w_iload (pc' := 170) X1157 hx hby at_168 rfl rfl ?_
     refine w_iadd (pc' := 171) X1157 hx hby at_170 rfl ?_
     have r1192 : (((2 : Int32) * (0 : Int32)) + (2 : Int32)) = (2 : Int32) := by decide
     rw [r1192]
     show Rch p e below T1157 (mkF m 171 #[.val (.int sp), .val (.int qc), .val (.int mc), .val (.int lb), .val (.int lq), .val (.int 0), .val (.int 2), .val (.ref a831), .val (.ref a854), .val (.ref ra_889), .val (.ref ra_1092), .val (.ref a1114), .val (.ref ra_1157), .unset] [(.int 2)]) _
     refine w_istore (pc' := 173) (l' := #[.val (.int sp), .val (.int qc), .val (.int mc), .val (.int lb), .val (.int lq), .val (.int 0), .val (.int 2), .val (.ref a831), .val (.ref a854), .val (.ref ra_889), .val (.ref ra_1092), .val (.ref a1114), .val (.ref ra_1157), .val (.int 2)]) X1157 hx hby at_171 rfl rfl ?_
     refine w_aload (pc' := 175) X1157 hx hby at_173 rfl rfl rfl ?_
     obtain ⟨cq1193, kq1193, q1193a, q1193b, q1193c⟩ := isOf hZ889 (rfl : T1157.heap = T1157.heap) fq1157_0
     obtain ⟨_, _, ⟨T1193, L1193, k1193, n1193⟩, -, X1193, ⟨Lc1193, hQ1193, l1193, y1193, z1193⟩, st1193⟩ := X1157.virtualBack hx (y := (⟨"java/lang/String", "length", "()I"⟩ : MethodName)) (z := (⟨"java/lang/String", "length", "()I"⟩ : MethodName)) hown889 (mvT hZ889 (wi hw 153 rfl)) (mvT hZ889 (wi hw 67 rfl)) (notFace_of_selects (args := #[]) (mvT hZ889 (wi hw 69 rfl))) (mvT hZ889 (wi hw 69 rfl)) (mvT hZ889 (wi hw 68 rfl)) (by decide) (backOf (W := 0) (rm_length l Z a0 hw [] G1 ra_1157 0 t_1157 kt_1157 2 ([(.int (own_by na)), (.int (own_by nb))]) (.int 0) T1157.heap h0.size Z1189 (O2) (P5) fq1157_1 (Or.inl rfl) fq1157_2 f1191 fq1157_0 Old1187) hZ889 (wi hw 70 rfl) (wi hw 6 rfl) (by decide) (by decide)) q1193a q1193c (g := (mkF m 175 #[.val (.int sp), .val (.int qc), .val (.int mc), .val (.int lb), .val (.int lq), .val (.int 0), .val (.int 2), .val (.ref a831), .val (.ref a854), .val (.ref ra_889), .val (.ref ra_1092), .val (.ref a1114), .val (.ref ra_1157), .val (.int 2)] [(.ref ra_1157)])) rfl (by rw [hml]; rfl) (Steps.refl _) (argsL := []) (rest := []) (lenOf pd___I rfl) rfl (by show 2 * 0 + _ ≤ _; exact Nat.le_of_eq rfl) (hb hby at_175) (fun _ _ => ⟨rfl, (rfl : T1157.heap = T1157.heap), (by decide : 12 + 0 ≤ _), (by decide : 60 + 0 ≤ _)⟩)
     dsimp only [Pt.U, Pt.locs, Pt.cells, Pt.slots] at X1193 l1193 y1193 z1193 st1193 hQ1193
     subst l1193 y1193 z1193
     obtain ⟨rfl, NQ1193, K1193⟩ := hQ1193
     have N1194 := Fr.app N1158 NQ1193
     refine Rch.st (fun _ k => st1193.trans k) ?_
     show Rch p e below T1193 (mkF m 178 #[.val (.int sp), .val (.int qc), .val (.int mc), .val (.int lb), .val (.int lq), .val (.int 0), .val (.int 2), .val (.ref a831), .val (.ref a854), .val (.ref ra_889), .val (.ref ra_1092), .val (.ref a1114), .val (.ref ra_1157), .val (.int 2)] [(.int ((2 : Int32) >>> ((0 : Int32) &&& 31)))]) _
     refine w_iload (pc' := 180) X1193 hx hby at_178 rfl rfl ?_
     refine w_icmpYes (pc' := 185) X1193 hx hby at_180 (XT.ii_eq_t (by decide)) (by decide) ?_
     refine w_aload (pc' := 187) X1193 hx hby at_185 rfl rfl rfl ?_
     refine w_iconst (pc' := 188) (v := 0) X1193 hx hby at_187 rfl rfl ?_
     refine w_iload (pc' := 190) X1193 hx hby at_188 rfl rfl ?_
     refine w_iload (pc' := 192) X1193 hx hby at_190 rfl rfl ?_
     refine w_iload (pc' := 194) X1193 hx hby at_192 rfl rfl ?_
     refine w_aload (pc' := 196) X1193 hx hby at_194 rfl rfl rfl ?_
     refine w_aload (pc' := 198) X1193 hx hby at_196 rfl rfl rfl ?_
     obtain ⟨_, _, ⟨T1195, L1195, k1195, n1195⟩, -, X1195, ⟨Lc1195, hQ1195, l1195, y1195, z1195⟩, st1195⟩ := Jvm.LawKit.callS X1193 hx (y := (⟨"com/example/alcance/alcance/IdentifiersQuotedPinLaw", "ok", "(Ljava/lang/String;IIII[C[C)Z"⟩ : MethodName)) hown889 (mvT hZ889 (wi hw 154 rfl)) (mvT hZ889 (wi hw 155 rfl)) (mvT hZ889 (wi hw 3 rfl)) (mvT hZ889 (wi hw 156 rfl)) (by decide) (backOf (W := 0) (rm_ok_B l Z a0 hw [] G1 G3 ra_1157 t_1157 kt_1157 2 ([(.int (own_by na)), (.int (own_by nb))]) (.int 0) 0 0 2 a831 kc831 ([(.int qa), (.int qb)]) (.int 0) a854 kc854 ([(.int na), (.int nb), (.int nc)]) (.int 0) na 2 T1157.heap h0.size Z1189 (O2) (P5) (O4) (rG3) fq1157_0 fq1157_1 fq1157_2 f1191 f1175 f1176 (by decide) (by decide) (⟨by decide, by decide⟩) (by rfl) (ch_na) (by decide) (by decide) (by decide) (by rfl) Old1187) hZ889 (wi hw 156 rfl) (wi hw 3 rfl) (by decide) (by decide)) (g := (mkF m 198 #[.val (.int sp), .val (.int qc), .val (.int mc), .val (.int lb), .val (.int lq), .val (.int 0), .val (.int 2), .val (.ref a831), .val (.ref a854), .val (.ref ra_889), .val (.ref ra_1092), .val (.ref a1114), .val (.ref ra_1157), .val (.int 2)] [(.ref a854), (.ref a831), (.int 2), (.int 0), (.int 2), (.int 0), (.ref ra_1157)])) rfl (by rw [hml]; rfl) (argsL := [(.ref ra_1157), (.int 0), (.int 2), (.int 0), (.int 2), (.ref a831), (.ref a854)]) (rest := []) (lenOf pd__Ljava_lang_String_IIII_C_C_Z rfl) rfl (by show 2 * 0 + _ ≤ _; exact Nat.le_of_eq rfl) (hb hby at_198) (fun _ _ => ⟨rfl, K1193, (by decide : 12 + 0 ≤ _), (by decide : 60 + 0 ≤ _)⟩)
     dsimp only [Pt.U, Pt.locs, Pt.cells, Pt.slots] at X1195 l1195 y1195 z1195 st1195 hQ1195
     subst l1195 y1195 z1195
     obtain ⟨rfl, NQ1195, K1195⟩ := hQ1195
     have N1196 := Fr.app N1194 NQ1195
     refine Rch.st (fun _ k => st1195 _ k) ?_
     show Rch p e below T1195 (mkF m 201 #[.val (.int sp), .val (.int qc), .val (.int mc), .val (.int lb), .val (.int lq), .val (.int 0), .val (.int 2), .val (.ref a831), .val (.ref a854), .val (.ref ra_889), .val (.ref ra_1092), .val (.ref a1114), .val (.ref ra_1157), .val (.int 2)] [(.int 1)]) _
     refine w_ifNo (pc' := 204) X1195 hx hby at_201 (XT.i0_eq_f (by decide)) rfl ?_
     refine w_aload (pc' := 206) X1195 hx hby at_204 rfl rfl rfl ?_
     refine w_iconst (pc' := 207) (v := 1) X1195 hx hby at_206 rfl rfl ?_
     refine w_iload (pc' := 209) X1195 hx hby at_207 rfl rfl ?_
     refine w_iload (pc' := 211) X1195 hx hby at_209 rfl rfl ?_
     refine w_iload (pc' := 213) X1195 hx hby at_211 rfl rfl ?_
     refine w_aload (pc' := 215) X1195 hx hby at_213 rfl rfl rfl ?_
     refine w_aload (pc' := 217) X1195 hx hby at_215 rfl rfl rfl ?_
     obtain ⟨_, _, ⟨T1197, L1197, k1197, n1197⟩, -, X1197, ⟨Lc1197, hQ1197, l1197, y1197, z1197⟩, st1197⟩ := Jvm.LawKit.callS X1195 hx (y := (⟨"com/example/alcance/alcance/IdentifiersQuotedPinLaw", "ok", "(Ljava/lang/String;IIII[C[C)Z"⟩ : MethodName)) hown889 (mvT hZ889 (wi hw 154 rfl)) (mvT hZ889 (wi hw 155 rfl)) (mvT hZ889 (wi hw 3 rfl)) (mvT hZ889 (wi hw 156 rfl)) (by decide) (backOf (W := 0) (rm_ok_B l Z a0 hw [] G1 G3 ra_1157 t_1157 kt_1157 2 ([(.int (own_by na)), (.int (own_by nb))]) (.int 0) 1 0 2 a831 kc831 ([(.int qa), (.int qb)]) (.int 0) a854 kc854 ([(.int na), (.int nb), (.int nc)]) (.int 0) nb 2 T1157.heap h0.size Z1189 (O2) (P5) (O4) (rG3) fq1157_0 fq1157_1 fq1157_2 f1191 f1175 f1176 (by decide) (by decide) (⟨by decide, by decide⟩) (by rfl) (ch_nb) (by decide) (by decide) (by decide) (by rfl) Old1187) hZ889 (wi hw 156 rfl) (wi hw 3 rfl) (by decide) (by decide)) (g := (mkF m 217 #[.val (.int sp), .val (.int qc), .val (.int mc), .val (.int lb), .val (.int lq), .val (.int 0), .val (.int 2), .val (.ref a831), .val (.ref a854), .val (.ref ra_889), .val (.ref ra_1092), .val (.ref a1114), .val (.ref ra_1157), .val (.int 2)] [(.ref a854), (.ref a831), (.int 2), (.int 0), (.int 2), (.int 1), (.ref ra_1157)])) rfl (by rw [hml]; rfl) (argsL := [(.ref ra_1157), (.int 1), (.int 2), (.int 0), (.int 2), (.ref a831), (.ref a854)]) (rest := []) (lenOf pd__Ljava_lang_String_IIII_C_C_Z rfl) rfl (by show 2 * 0 + _ ≤ _; exact Nat.le_of_eq rfl) (hb hby at_217) (fun _ _ => ⟨rfl, K1195, (by decide : 12 + 0 ≤ _), (by decide : 60 + 0 ≤ _)⟩)
     dsimp only [Pt.U, Pt.locs, Pt.cells, Pt.slots] at X1197 l1197 y1197 z1197 st1197 hQ1197
     subst l1197 y1197 z1197
     obtain ⟨rfl, NQ1197, K1197⟩ := hQ1197
     have N1198 := Fr.app N1196 NQ1197
     refine Rch.st (fun _ k => st1197 _ k) ?_
     show Rch p e below T1197 (mkF m 220 #[.val (.int sp), .val (.int qc), .val (.int mc), .val (.int lb), .val (.int lq), .val (.int 0), .val (.int 2), .val (.ref a831), .val (.ref a854), .val (.ref ra_889), .val (.ref ra_1092), .val (.ref a1114), .val (.ref ra_1157), .val (.int 2)] [(.int 1)]) _
     refine w_ifNo (pc' := 223) X1197 hx hby at_220 (XT.i0_eq_f (by decide)) rfl ?_
     refine w_aload (pc' := 225) X1197 hx hby at_223 rfl rfl rfl ?_
     refine w_iconst (pc' := 226) (v := 2) X1197 hx hby at_225 rfl rfl ?_
     refine w_iload (pc' := 228) X1197 hx hby at_226 rfl rfl ?_
     refine w_iload (pc' := 230) X1197 hx hby at_228 rfl rfl ?_
     refine w_iload (pc' := 232) X1197 hx hby at_230 rfl rfl ?_
     refine w_aload (pc' := 234) X1197 hx hby at_232 rfl rfl rfl ?_
     refine w_aload (pc' := 236) X1197 hx hby at_234 rfl rfl rfl ?_
     obtain ⟨_, _, ⟨T1199, L1199, k1199, n1199⟩, -, X1199, ⟨Lc1199, hQ1199, l1199, y1199, z1199⟩, st1199⟩ := Jvm.LawKit.callS X1197 hx (y := (⟨"com/example/alcance/alcance/IdentifiersQuotedPinLaw", "ok", "(Ljava/lang/String;IIII[C[C)Z"⟩ : MethodName)) hown889 (mvT hZ889 (wi hw 154 rfl)) (mvT hZ889 (wi hw 155 rfl)) (mvT hZ889 (wi hw 3 rfl)) (mvT hZ889 (wi hw 156 rfl)) (by decide) (backOf (W := 0) (rm_ok_far l Z a0 hw [] ra_1157 2 2 0 2 a831 a854 T1157.heap h0.size Z1189 (by decide)) hZ889 (wi hw 156 rfl) (wi hw 3 rfl) (by decide) (by decide)) (g := (mkF m 236 #[.val (.int sp), .val (.int qc), .val (.int mc), .val (.int lb), .val (.int lq), .val (.int 0), .val (.int 2), .val (.ref a831), .val (.ref a854), .val (.ref ra_889), .val (.ref ra_1092), .val (.ref a1114), .val (.ref ra_1157), .val (.int 2)] [(.ref a854), (.ref a831), (.int 2), (.int 0), (.int 2), (.int 2), (.ref ra_1157)])) rfl (by rw [hml]; rfl) (argsL := [(.ref ra_1157), (.int 2), (.int 2), (.int 0), (.int 2), (.ref a831), (.ref a854)]) (rest := []) (lenOf pd__Ljava_lang_String_IIII_C_C_Z rfl) rfl (by show 2 * 0 + _ ≤ _; exact Nat.le_of_eq rfl) (hb hby at_236) (fun _ _ => ⟨rfl, K1197, (by decide : 12 + 0 ≤ _), (by decide : 60 + 0 ≤ _)⟩)
     dsimp only [Pt.U, Pt.locs, Pt.cells, Pt.slots] at X1199 l1199 y1199 z1199 st1199 hQ1199
     subst l1199 y1199 z1199
     obtain ⟨rfl, NQ1199, K1199⟩ := hQ1199
     have N1200 := Fr.app N1198 NQ1199
     refine Rch.st (fun _ k => st1199 _ k) ?_
     show Rch p e below T1199 (mkF m 239 #[.val (.int sp), .val (.int qc), .val (.int mc), .val (.int lb), .val (.int lq), .val (.int 0), .val (.int 2), .val (.ref a831), .val (.ref a854), .val (.ref ra_889), .val (.ref ra_1092), .val (.ref a1114), .val (.ref ra_1157), .val (.int 2)] [(.int 1)]) _
     refine w_ifNo (pc' := 242) X1199 hx hby at_239 (XT.i0_eq_f (by decide)) rfl ?_
     refine w_aload (pc' := 244) X1199 hx hby at_242 rfl rfl rfl ?_
     refine w_iconst (pc' := 245) (v := 3) X1199 hx hby at_244 rfl rfl ?_
     refine w_iload (pc' := 247) X1199 hx hby at_245 rfl rfl ?_
     refine w_iload (pc' := 249) X1199 hx hby at_247 rfl rfl ?_
     refine w_iload (pc' := 251) X1199 hx hby at_249 rfl rfl ?_
     refine w_aload (pc' := 253) X1199 hx hby at_251 rfl rfl rfl ?_
     refine w_aload (pc' := 255) X1199 hx hby at_253 rfl rfl rfl ?_
     obtain ⟨_, _, ⟨T1201, L1201, k1201, n1201⟩, -, X1201, ⟨Lc1201, hQ1201, l1201, y1201, z1201⟩, st1201⟩ := Jvm.LawKit.callS X1199 hx (y := (⟨"com/example/alcance/alcance/IdentifiersQuotedPinLaw", "ok", "(Ljava/lang/String;IIII[C[C)Z"⟩ : MethodName)) hown889 (mvT hZ889 (wi hw 154 rfl)) (mvT hZ889 (wi hw 155 rfl)) (mvT hZ889 (wi hw 3 rfl)) (mvT hZ889 (wi hw 156 rfl)) (by decide) (backOf (W := 0) (rm_ok_far l Z a0 hw [] ra_1157 3 2 0 2 a831 a854 T1157.heap h0.size Z1189 (by decide)) hZ889 (wi hw 156 rfl) (wi hw 3 rfl) (by decide) (by decide)) (g := (mkF m 255 #[.val (.int sp), .val (.int qc), .val (.int mc), .val (.int lb), .val (.int lq), .val (.int 0), .val (.int 2), .val (.ref a831), .val (.ref a854), .val (.ref ra_889), .val (.ref ra_1092), .val (.ref a1114), .val (.ref ra_1157), .val (.int 2)] [(.ref a854), (.ref a831), (.int 2), (.int 0), (.int 2), (.int 3), (.ref ra_1157)])) rfl (by rw [hml]; rfl) (argsL := [(.ref ra_1157), (.int 3), (.int 2), (.int 0), (.int 2), (.ref a831), (.ref a854)]) (rest := []) (lenOf pd__Ljava_lang_String_IIII_C_C_Z rfl) rfl (by show 2 * 0 + _ ≤ _; exact Nat.le_of_eq rfl) (hb hby at_255) (fun _ _ => ⟨rfl, K1199, (by decide : 12 + 0 ≤ _), (by decide : 60 + 0 ≤ _)⟩)
     dsimp only [Pt.U, Pt.locs, Pt.cells, Pt.slots] at X1201 l1201 y1201 z1201 st1201 hQ1201
     subst l1201 y1201 z1201
     obtain ⟨rfl, NQ1201, K1201⟩ := hQ1201
     have N1202 := Fr.app N1200 NQ1201
     refine Rch.st (fun _ k => st1201 _ k) ?_
     show Rch p e below T1201 (mkF m 258 #[.val (.int sp), .val (.int qc), .val (.int mc), .val (.int lb), .val (.int lq), .val (.int 0), .val (.int 2), .val (.ref a831), .val (.ref a854), .val (.ref ra_889), .val (.ref ra_1092), .val (.ref a1114), .val (.ref ra_1157), .val (.int 2)] [(.int 1)]) _
     refine w_ifNo (pc' := 261) X1201 hx hby at_258 (XT.i0_eq_f (by decide)) rfl ?_
     refine w_aload (pc' := 263) X1201 hx hby at_261 rfl rfl rfl ?_
     refine w_iconst (pc' := 264) (v := 4) X1201 hx hby at_263 rfl rfl ?_
     refine w_iload (pc' := 266) X1201 hx hby at_264 rfl rfl ?_
     refine w_iload (pc' := 268) X1201 hx hby at_266 rfl rfl ?_
     refine w_iload (pc' := 270) X1201 hx hby at_268 rfl rfl ?_
     refine w_aload (pc' := 272) X1201 hx hby at_270 rfl rfl rfl ?_
     refine w_aload (pc' := 274) X1201 hx hby at_272 rfl rfl rfl ?_
     obtain ⟨_, _, ⟨T1203, L1203, k1203, n1203⟩, -, X1203, ⟨Lc1203, hQ1203, l1203, y1203, z1203⟩, st1203⟩ := Jvm.LawKit.callS X1201 hx (y := (⟨"com/example/alcance/alcance/IdentifiersQuotedPinLaw", "ok", "(Ljava/lang/String;IIII[C[C)Z"⟩ : MethodName)) hown889 (mvT hZ889 (wi hw 154 rfl)) (mvT hZ889 (wi hw 155 rfl)) (mvT hZ889 (wi hw 3 rfl)) (mvT hZ889 (wi hw 156 rfl)) (by decide) (backOf (W := 0) (rm_ok_far l Z a0 hw [] ra_1157 4 2 0 2 a831 a854 T1157.heap h0.size Z1189 (by decide)) hZ889 (wi hw 156 rfl) (wi hw 3 rfl) (by decide) (by decide)) (g := (mkF m 274 #[.val (.int sp), .val (.int qc), .val (.int mc), .val (.int lb), .val (.int lq), .val (.int 0), .val (.int 2), .val (.ref a831), .val (.ref a854), .val (.ref ra_889), .val (.ref ra_1092), .val (.ref a1114), .val (.ref ra_1157), .val (.int 2)] [(.ref a854), (.ref a831), (.int 2), (.int 0), (.int 2), (.int 4), (.ref ra_1157)])) rfl (by rw [hml]; rfl) (argsL := [(.ref ra_1157), (.int 4), (.int 2), (.int 0), (.int 2), (.ref a831), (.ref a854)]) (rest := []) (lenOf pd__Ljava_lang_String_IIII_C_C_Z rfl) rfl (by show 2 * 0 + _ ≤ _; exact Nat.le_of_eq rfl) (hb hby at_274) (fun _ _ => ⟨rfl, K1201, (by decide : 12 + 0 ≤ _), (by decide : 60 + 0 ≤ _)⟩)
     dsimp only [Pt.U, Pt.locs, Pt.cells, Pt.slots] at X1203 l1203 y1203 z1203 st1203 hQ1203
     subst l1203 y1203 z1203
     obtain ⟨rfl, NQ1203, K1203⟩ := hQ1203
     have N1204 := Fr.app N1202 NQ1203
     refine Rch.st (fun _ k => st1203 _ k) ?_
     show Rch p e below T1203 (mkF m 277 #[.val (.int sp), .val (.int qc), .val (.int mc), .val (.int lb), .val (.int lq), .val (.int 0), .val (.int 2), .val (.ref a831), .val (.ref a854), .val (.ref ra_889), .val (.ref ra_1092), .val (.ref a1114), .val (.ref ra_1157), .val (.int 2)] [(.int 1)]) _
     refine w_ifNo (pc' := 280) X1203 hx hby at_277 (XT.i0_eq_f (by decide)) rfl ?_
     refine w_aload (pc' := 282) X1203 hx hby at_280 rfl rfl rfl ?_
     refine w_iconst (pc' := 283) (v := 5) X1203 hx hby at_282 rfl rfl ?_
     refine w_iload (pc' := 285) X1203 hx hby at_283 rfl rfl ?_
     refine w_iload (pc' := 287) X1203 hx hby at_285 rfl rfl ?_
     refine w_iload (pc' := 289) X1203 hx hby at_287 rfl rfl ?_
     refine w_aload (pc' := 291) X1203 hx hby at_289 rfl rfl rfl ?_
     refine w_aload (pc' := 293) X1203 hx hby at_291 rfl rfl rfl ?_
     obtain ⟨_, _, ⟨T1205, L1205, k1205, n1205⟩, -, X1205, ⟨Lc1205, hQ1205, l1205, y1205, z1205⟩, st1205⟩ := Jvm.LawKit.callS X1203 hx (y := (⟨"com/example/alcance/alcance/IdentifiersQuotedPinLaw", "ok", "(Ljava/lang/String;IIII[C[C)Z"⟩ : MethodName)) hown889 (mvT hZ889 (wi hw 154 rfl)) (mvT hZ889 (wi hw 155 rfl)) (mvT hZ889 (wi hw 3 rfl)) (mvT hZ889 (wi hw 156 rfl)) (by decide) (backOf (W := 0) (rm_ok_far l Z a0 hw [] ra_1157 5 2 0 2 a831 a854 T1157.heap h0.size Z1189 (by decide)) hZ889 (wi hw 156 rfl) (wi hw 3 rfl) (by decide) (by decide)) (g := (mkF m 293 #[.val (.int sp), .val (.int qc), .val (.int mc), .val (.int lb), .val (.int lq), .val (.int 0), .val (.int 2), .val (.ref a831), .val (.ref a854), .val (.ref ra_889), .val (.ref ra_1092), .val (.ref a1114), .val (.ref ra_1157), .val (.int 2)] [(.ref a854), (.ref a831), (.int 2), (.int 0), (.int 2), (.int 5), (.ref ra_1157)])) rfl (by rw [hml]; rfl) (argsL := [(.ref ra_1157), (.int 5), (.int 2), (.int 0), (.int 2), (.ref a831), (.ref a854)]) (rest := []) (lenOf pd__Ljava_lang_String_IIII_C_C_Z rfl) rfl (by show 2 * 0 + _ ≤ _; exact Nat.le_of_eq rfl) (hb hby at_293) (fun _ _ => ⟨rfl, K1203, (by decide : 12 + 0 ≤ _), (by decide : 60 + 0 ≤ _)⟩)
     dsimp only [Pt.U, Pt.locs, Pt.cells, Pt.slots] at X1205 l1205 y1205 z1205 st1205 hQ1205
     subst l1205 y1205 z1205
     obtain ⟨rfl, NQ1205, K1205⟩ := hQ1205
     have N1206 := Fr.app N1204 NQ1205
     refine Rch.st (fun _ k => st1205 _ k) ?_
     show Rch p e below T1205 (mkF m 296 #[.val (.int sp), .val (.int qc), .val (.int mc), .val (.int lb), .val (.int lq), .val (.int 0), .val (.int 2), .val (.ref a831), .val (.ref a854), .val (.ref ra_889), .val (.ref ra_1092), .val (.ref a1114), .val (.ref ra_1157), .val (.int 2)] [(.int 1)]) _
     refine w_ifNo (pc' := 299) X1205 hx hby at_296 (XT.i0_eq_f (by decide)) rfl ?_
     refine w_aload (pc' := 301) X1205 hx hby at_299 rfl rfl rfl ?_
     refine w_bipush (pc' := 303) (v := 6) X1205 hx hby at_301 rfl rfl ?_
     refine w_iload (pc' := 305) X1205 hx hby at_303 rfl rfl ?_
     refine w_iload (pc' := 307) X1205 hx hby at_305 rfl rfl ?_
     refine w_iload (pc' := 309) X1205 hx hby at_307 rfl rfl ?_
     refine w_aload (pc' := 311) X1205 hx hby at_309 rfl rfl rfl ?_
     refine w_aload (pc' := 313) X1205 hx hby at_311 rfl rfl rfl ?_
     obtain ⟨_, _, ⟨T1207, L1207, k1207, n1207⟩, -, X1207, ⟨Lc1207, hQ1207, l1207, y1207, z1207⟩, st1207⟩ := Jvm.LawKit.callS X1205 hx (y := (⟨"com/example/alcance/alcance/IdentifiersQuotedPinLaw", "ok", "(Ljava/lang/String;IIII[C[C)Z"⟩ : MethodName)) hown889 (mvT hZ889 (wi hw 154 rfl)) (mvT hZ889 (wi hw 155 rfl)) (mvT hZ889 (wi hw 3 rfl)) (mvT hZ889 (wi hw 156 rfl)) (by decide) (backOf (W := 0) (rm_ok_far l Z a0 hw [] ra_1157 6 2 0 2 a831 a854 T1157.heap h0.size Z1189 (by decide)) hZ889 (wi hw 156 rfl) (wi hw 3 rfl) (by decide) (by decide)) (g := (mkF m 313 #[.val (.int sp), .val (.int qc), .val (.int mc), .val (.int lb), .val (.int lq), .val (.int 0), .val (.int 2), .val (.ref a831), .val (.ref a854), .val (.ref ra_889), .val (.ref ra_1092), .val (.ref a1114), .val (.ref ra_1157), .val (.int 2)] [(.ref a854), (.ref a831), (.int 2), (.int 0), (.int 2), (.int 6), (.ref ra_1157)])) rfl (by rw [hml]; rfl) (argsL := [(.ref ra_1157), (.int 6), (.int 2), (.int 0), (.int 2), (.ref a831), (.ref a854)]) (rest := []) (lenOf pd__Ljava_lang_String_IIII_C_C_Z rfl) rfl (by show 2 * 0 + _ ≤ _; exact Nat.le_of_eq rfl) (hb hby at_313) (fun _ _ => ⟨rfl, K1205, (by decide : 12 + 0 ≤ _), (by decide : 60 + 0 ≤ _)⟩)
     dsimp only [Pt.U, Pt.locs, Pt.cells, Pt.slots] at X1207 l1207 y1207 z1207 st1207 hQ1207
     subst l1207 y1207 z1207
     obtain ⟨rfl, NQ1207, K1207⟩ := hQ1207
     have N1208 := Fr.app N1206 NQ1207
     refine Rch.st (fun _ k => st1207 _ k) ?_
     show Rch p e below T1207 (mkF m 316 #[.val (.int sp), .val (.int qc), .val (.int mc), .val (.int lb), .val (.int lq), .val (.int 0), .val (.int 2), .val (.ref a831), .val (.ref a854), .val (.ref ra_889), .val (.ref ra_1092), .val (.ref a1114), .val (.ref ra_1157), .val (.int 2)] [(.int 1)]) _
     refine w_ifNo (pc' := 319) X1207 hx hby at_316 (XT.i0_eq_f (by decide)) rfl ?_
     refine w_iconst (pc' := 320) (v := 1) X1207 hx hby at_319 rfl rfl ?_
     refine w_goto (pc' := 324) X1207 hx hby at_320 (by decide) ?_
     exact Rch.retVW X1207 hx hS889 (by rw [K1207]; exact hk1190) Bd.returns rfl (Or.inl ⟨rfl, by simp, _, rfl⟩) (hb hby at_324) (by rw [K1207]; exact ⟨rfl, (own_Fr Z0 N1208), Kp1188, own_ib_mono (own_ib (s := s.setVm T889.vm) IQ889 X1207.warmed) (by decide)⟩) (by decide) (by decide)
    ·skip
     show Rch p e below T889 (mkF m 129 #[.val (.int sp), .val (.int qc), .val (.int mc), .val (.int lb), .val (.int lq), .val (.int 0), .val (.int 3), .val (.ref a831), .val (.ref a854), .val (.ref ra_889), .unset, .unset, .unset, .unset] [(.int 0), (.ref a854), (.ref a831), (.int 3)]) _
     obtain ⟨_, _, ⟨T1209, L1209, k1209, n1209⟩, -, X1209, ⟨Lc1209, hQ1209, l1209, y1209, z1209⟩, st1209⟩ := Jvm.LawKit.callS X889w hx (y := (⟨"com/example/alcance/alcance/IdentifiersQuotedPinLaw", "make", "(I[C[CZ)Ljava/lang/String;"⟩ : MethodName)) hown889 (mvT hZ889 (wi hw 1 rfl)) (mvT hZ889 (wi hw 2 rfl)) (mvT hZ889 (wi hw 3 rfl)) (mvT hZ889 (wi hw 4 rfl)) (by decide) (backOf (W := 0) (rm_mk_0_3 l Z a0 hw [] G1 a831 a854 kc854 na nb nc T889.heap h0.size Z895 (O2) (P5) f892 (ch_na) (ch_nb) (ch_nc) Old893) hZ889 (wi hw 4 rfl) (wi hw 3 rfl) (by decide) (by decide)) (g := (mkF m 129 #[.val (.int sp), .val (.int qc), .val (.int mc), .val (.int lb), .val (.int lq), .val (.int 0), .val (.int 3), .val (.ref a831), .val (.ref a854), .val (.ref ra_889), .unset, .unset, .unset, .unset] [(.int 0), (.ref a854), (.ref a831), (.int 3)])) rfl (by rw [hml]; rfl) (argsL := [(.int 3), (.ref a831), (.ref a854), (.int 0)]) (rest := []) (lenOf pd__I_C_CZ_Ljava_lang_String_ rfl) rfl (by show 2 * 0 + _ ≤ _; exact Nat.le_of_eq rfl) (hb hby at_129) (fun _ _ => ⟨rfl, (rfl : T889.heap = T889.heap), (by decide : 4 + 3 ≤ _), (by decide : 9 + 10 ≤ _)⟩)
     dsimp only [Pt.U, Pt.locs, Pt.cells, Pt.slots] at X1209 l1209 y1209 z1209 st1209 hQ1209
     subst l1209 y1209 z1209
     obtain ⟨ra_1209, t_1209, kt_1209, rfl, NQ1209, K1209, pq1209_0, pq1209_1, fq1209_0, fq1209_1, fq1209_2, fq1209_3⟩ := hQ1209
     have N1210 := Fr.app N890 NQ1209
     have f1221 := f891.keep K1209 nin0
     have f1222 := f892.keep K1209 nin0
     have f1223 := fq889_0.keep K1209
     have f1224 := fq889_1.keep K1209 nin0
     have f1225 := fq889_2.keep K1209 nin0
     have f1226 := fq889_3.keep K1209 nin0
     have Old1227 := Old893.keep K1209 all0
     have Kp1228 : Keep h0 T1209.heap [] := Kp894.trans K1209 all0
     have Z1229 := Nat.le_trans Z895 K1209.1
     have hk1230 := Nat.le_trans hk889 K1209.1
     refine Rch.st (fun _ k => st1209 _ k) ?_
     show Rch p e below T1209 (mkF m 132 #[.val (.int sp), .val (.int qc), .val (.int mc), .val (.int lb), .val (.int lq), .val (.int 0), .val (.int 3), .val (.ref a831), .val (.ref a854), .val (.ref ra_889), .unset, .unset, .unset, .unset] [(.ref ra_1209)]) _
     refine w_astore (pc' := 134) (l' := #[.val (.int sp), .val (.int qc), .val (.int mc), .val (.int lb), .val (.int lq), .val (.int 0), .val (.int 3), .val (.ref a831), .val (.ref a854), .val (.ref ra_889), .val (.ref ra_1209), .unset, .unset, .unset]) X1209 hx hby at_132 rfl rfl rfl ?_
     obtain ⟨T1231, h1231, X1231, e1231, E1231, A1231, D1231, -, st1231⟩ := newO X1209 hx hZ889 hown889 (wi hw 13 rfl) (wi hw 14 rfl) (wi hw 15 rfl) (rfl : T1209.heap = T1209.heap) (g := (mkF m 134 #[.val (.int sp), .val (.int qc), .val (.int mc), .val (.int lb), .val (.int lq), .val (.int 0), .val (.int 3), .val (.ref a831), .val (.ref a854), .val (.ref ra_889), .val (.ref ra_1209), .unset, .unset, .unset] [])) rfl (hb hby at_134) (by decide) (by decide)
     obtain ⟨a1231, g1231⟩ : ∃ z, z = T1209.heap.size := ⟨_, rfl⟩
     rw [← g1231] at A1231 D1231 st1231
     have ne1232 : a831 ≠ a1231 := by rw [g1231]; exact Nat.ne_of_lt f1221.lt
     have ne1233 : a854 ≠ a1231 := by rw [g1231]; exact Nat.ne_of_lt f1222.lt
     have ne1234 : ra_1209 ≠ a1231 := by rw [g1231]; exact Nat.ne_of_lt fq1209_0.lt
     have ne1235 : ra_889 ≠ a1231 := by rw [g1231]; exact Nat.ne_of_lt f1223.lt
     have ne1236 : t_1209 ≠ a1231 := by rw [g1231]; exact Nat.ne_of_lt fq1209_3.lt
     have ne1237 : t_889 ≠ a1231 := by rw [g1231]; exact Nat.ne_of_lt f1226.lt
     have ge1238 : h0.size ≤ a1231 := Nat.le_trans Z1229 (Nat.le_of_eq g1231.symm)
     have hk1240 := Nat.le_trans hk1230 E1231.1
     have f1241 := f1221.ext E1231
     have f1242 := f1222.ext E1231
     have f1243 := f1223.ext E1231
     have f1244 := f1224.ext E1231
     have f1245 := f1225.ext E1231
     have f1246 := f1226.ext E1231
     have f1247 := fq1209_0.ext E1231
     have f1248 := fq1209_1.ext E1231
     have f1249 := fq1209_2.ext E1231
     have f1250 := fq1209_3.ext E1231
     have Old1251 := Old1227.ext E1231
     have Z1252 := Nat.le_trans Z1229 E1231.1
     have Kp1253 : Keep h0 h1231 [] := Kp1228.ext E1231
     have f1254 : Fld Z h1231 a1231 "com/example/alcance/alcance/Identifiers" "lowersBare" "Z" (.int (0 : Int32)) := D1231 (Or.inr (wi hw 28 rfl)) (ty := .boolean) (by decide)
     have f1255 : Fld Z h1231 a1231 "com/example/alcance/alcance/Identifiers" "lowersQuoted" "Z" (.int (0 : Int32)) := D1231 (Or.inr (wi hw 30 rfl)) (ty := .boolean) (by decide)
     have f1256 : Fld Z h1231 a1231 "com/example/alcance/alcance/Identifiers" "quote" "Ljava/lang/String;" .null := D1231 (Or.inr (wi hw 32 rfl)) (ty := (.object "java/lang/String")) (by decide)
     refine Rch.st (fun _ k => st1231 _ k) ?_
     show Rch p e below T1231 (mkF m 137 #[.val (.int sp), .val (.int qc), .val (.int mc), .val (.int lb), .val (.int lq), .val (.int 0), .val (.int 3), .val (.ref a831), .val (.ref a854), .val (.ref ra_889), .val (.ref ra_1209), .unset, .unset, .unset] [(.ref a1231)]) _
     refine w_dup (pc' := 138) X1231 hx hby at_137 rfl rfl ?_
     refine w_iloadN (pc' := 139) X1231 hx hby at_138 rfl rfl ?_
     refine w_iload (pc' := 141) X1231 hx hby at_139 rfl rfl ?_
     refine w_aload (pc' := 143) X1231 hx hby at_141 rfl rfl rfl ?_
     obtain ⟨_, _, ⟨T1257, L1257, k1257, n1257⟩, -, X1257, ⟨Lc1257, hQ1257, l1257, y1257, z1257⟩, st1257⟩ := X1231.specialBack hx (y := (⟨"com/example/alcance/alcance/Identifiers", "<init>", "(ZZLjava/lang/String;)V"⟩ : MethodName)) rfl hown889 (mvT hZ889 (wi hw 16 rfl)) (mvT hZ889 (wi hw 17 rfl)) (mvT hZ889 (wi hw 18 rfl)) (by decide) (backOf (W := 1) (rm_id l Z a0 hw [] a1231 lb lq ra_889 h1231 h0.size Z1252 A1231 f1254 f1255 f1256 (ge1238) (hlb) (hlq)) hZ889 (wi hw 18 rfl) (wi hw 15 rfl) (by decide) (by decide)) (g := (mkF m 143 #[.val (.int sp), .val (.int qc), .val (.int mc), .val (.int lb), .val (.int lq), .val (.int 0), .val (.int 3), .val (.ref a831), .val (.ref a854), .val (.ref ra_889), .val (.ref ra_1209), .unset, .unset, .unset] [(.ref ra_889), (.int lq), (.int lb), (.ref a1231), (.ref a1231)])) rfl (by rw [hml]; rfl) (Steps.refl _) (a := a1231) (argsL := [(.int lb), (.int lq), (.ref ra_889)]) (rest := [(.ref a1231)]) (lenOf pd__ZZLjava_lang_String__V rfl) rfl (by show 2 * 0 + _ ≤ _; exact Nat.le_of_eq rfl) (hb hby at_143) (fun _ _ => ⟨rfl, e1231, (by decide : 8 + 0 ≤ _), (by decide : 22 + 0 ≤ _)⟩)
     dsimp only [Pt.U, Pt.locs, Pt.cells, Pt.slots] at X1257 l1257 y1257 z1257 st1257 hQ1257
     subst l1257 y1257 z1257
     obtain ⟨rfl, NQ1257, K1257, fq1257_0⟩ := hQ1257
     have N1258 := Fr.app N1210 NQ1257
     have f1259 := f1241.keep K1257 (ninS ne1232 nin0)
     have f1260 := f1242.keep K1257 (ninS ne1233 nin0)
     have f1261 := f1243.keep K1257
     have f1262 := f1244.keep K1257 (ninS ne1235 nin0)
     have f1263 := f1245.keep K1257 (ninS ne1235 nin0)
     have f1264 := f1246.keep K1257 (ninS ne1237 nin0)
     have f1265 := f1247.keep K1257
     have f1266 := f1248.keep K1257 (ninS ne1234 nin0)
     have f1267 := f1249.keep K1257 (ninS ne1234 nin0)
     have f1268 := f1250.keep K1257 (ninS ne1236 nin0)
     have f1269 := A1231.keep K1257
     have Old1270 := Old1251.keep K1257 (allS ge1238 all0)
     have Kp1271 : Keep h0 T1257.heap [] := Kp1253.trans K1257 (allS (Or.inr (Nat.le_trans Kp1228.1 (Nat.le_of_eq g1231.symm))) all0)
     have Z1272 := Nat.le_trans Z1252 K1257.1
     have hk1273 := Nat.le_trans hk1240 K1257.1
     refine Rch.st (fun _ k => st1257.trans k) ?_
     show Rch p e below T1257 (mkF m 146 #[.val (.int sp), .val (.int qc), .val (.int mc), .val (.int lb), .val (.int lq), .val (.int 0), .val (.int 3), .val (.ref a831), .val (.ref a854), .val (.ref ra_889), .val (.ref ra_1209), .unset, .unset, .unset] [(.ref a1231)]) _
     refine w_astore (pc' := 148) (l' := #[.val (.int sp), .val (.int qc), .val (.int mc), .val (.int lb), .val (.int lq), .val (.int 0), .val (.int 3), .val (.ref a831), .val (.ref a854), .val (.ref ra_889), .val (.ref ra_1209), .val (.ref a1231), .unset, .unset]) X1257 hx hby at_146 rfl rfl rfl ?_
     refine w_aload (pc' := 150) X1257 hx hby at_148 rfl rfl rfl ?_
     refine w_aload (pc' := 152) X1257 hx hby at_150 rfl rfl rfl ?_
     obtain ⟨cq1274, kq1274, q1274a, q1274b, q1274c⟩ := isOf hZ889 (rfl : T1257.heap = T1257.heap) f1269
     obtain ⟨_, _, ⟨T1274, L1274, k1274, n1274⟩, -, X1274, ⟨Lc1274, hQ1274, l1274, y1274, z1274⟩, st1274⟩ := X1257.virtualBack hx (y := (⟨"com/example/alcance/alcance/Identifiers", "quoted", "(Ljava/lang/String;)Ljava/lang/String;"⟩ : MethodName)) (z := (⟨"com/example/alcance/alcance/Identifiers", "quoted", "(Ljava/lang/String;)Ljava/lang/String;"⟩ : MethodName)) hown889 (mvT hZ889 (wi hw 33 rfl)) (mvT hZ889 (wi hw 34 rfl)) (notFace_of_selects (args := #[]) (mvT hZ889 (wi hw 36 rfl))) (mvT hZ889 (wi hw 36 rfl)) (mvT hZ889 (wi hw 35 rfl)) (by decide) (backOf (W := 0) (rm_qu l Z a0 hw [] G1 a1231 ra_889 t_889 kt_889 0 ([]) (.int 0) ra_1209 t_1209 kt_1209 3 ([(.int (own_by na)), (.int (own_by nb)), (.int (own_by nc))]) (.int 0) T1257.heap h0.size Z1272 (O2) (P5) fq1257_0 f1261 f1262 f1263 f1264 f1265 f1266 f1267 f1268 (by decide) (by decide) (by decide) (by decide) (by decide) (by decide) (by decide) (by decide) (by decide) (by decide) (by decide) (by decide) (by decide) (by decide) Old1270) hZ889 (wi hw 37 rfl) (wi hw 15 rfl) (by decide) (by decide)) q1274a q1274c (g := (mkF m 152 #[.val (.int sp), .val (.int qc), .val (.int mc), .val (.int lb), .val (.int lq), .val (.int 0), .val (.int 3), .val (.ref a831), .val (.ref a854), .val (.ref ra_889), .val (.ref ra_1209), .val (.ref a1231), .unset, .unset] [(.ref ra_1209), (.ref a1231)])) rfl (by rw [hml]; rfl) (Steps.refl _) (argsL := [(.ref ra_1209)]) (rest := []) (lenOf pd__Ljava_lang_String__Ljava_lang_String_ rfl) rfl (by show 2 * 0 + _ ≤ _; exact Nat.le_of_eq rfl) (hb hby at_152) (fun _ _ => ⟨rfl, (rfl : T1257.heap = T1257.heap), (by decide : 8 + 4 ≤ _), (by decide : 22 + 40 ≤ _)⟩)
     dsimp only [Pt.U, Pt.locs, Pt.cells, Pt.slots] at X1274 l1274 y1274 z1274 st1274 hQ1274
     subst l1274 y1274 z1274
     obtain ⟨ra_1274, t_1274, kt_1274, rfl, NQ1274, K1274, pq1274_0, pq1274_1, fq1274_0, fq1274_1, fq1274_2, fq1274_3⟩ := hQ1274
     have N1275 := Fr.app N1258 NQ1274
     have f1292 := f1259.keep K1274 nin0
     have f1293 := f1260.keep K1274 nin0
     have Old1304 := Old1270.keep K1274 all0
     have Kp1305 : Keep h0 T1274.heap [] := Kp1271.trans K1274 all0
     have Z1306 := Nat.le_trans Z1272 K1274.1
     have hk1307 := Nat.le_trans hk1273 K1274.1
     refine Rch.st (fun _ k => st1274.trans k) ?_
     show Rch p e below T1274 (mkF m 155 #[.val (.int sp), .val (.int qc), .val (.int mc), .val (.int lb), .val (.int lq), .val (.int 0), .val (.int 3), .val (.ref a831), .val (.ref a854), .val (.ref ra_889), .val (.ref ra_1209), .val (.ref a1231), .unset, .unset] [(.ref ra_1274)]) _
     have f1308 : Arv Z T1274.heap t_1274 kt_1274 .byte (3 : Int32) [(.int (own_by na)), (.int (own_by nb)), (.int (own_by nc))] (.int (0 : Int32)) := by have z := fq1274_3; rw [show ((((0 : Int32) + (0 : Int32)) + (3 : Int32)) + (0 : Int32)) = (3 : Int32) from by decide, own_cat, own_t0, own_t3] at z; exact z
     refine w_astore (pc' := 157) (l' := #[.val (.int sp), .val (.int qc), .val (.int mc), .val (.int lb), .val (.int lq), .val (.int 0), .val (.int 3), .val (.ref a831), .val (.ref a854), .val (.ref ra_889), .val (.ref ra_1209), .val (.ref a1231), .val (.ref ra_1274), .unset]) X1274 hx hby at_155 rfl rfl rfl ?_
     refine w_aload (pc' := 159) X1274 hx hby at_157 rfl rfl rfl ?_
     refine w_nonnullYes (pc' := 164) X1274 hx hby at_159 rfl (fun q => nomatch q) (by decide) ?_
     refine w_iconst (pc' := 165) (v := 2) X1274 hx hby at_164 rfl rfl ?_
     refine w_iload (pc' := 167) X1274 hx hby at_165 rfl rfl ?_
     refine w_imul (pc' := 168) X1274 hx hby at_167 rfl ?_
     refine w_iload (pc' := 170) X1274 hx hby at_168 rfl rfl ?_
     refine w_iadd (pc' := 171) X1274 hx hby at_170 rfl ?_
     have r1309 : (((2 : Int32) * (0 : Int32)) + (3 : Int32)) = (3 : Int32) := by decide
     rw [r1309]
     show Rch p e below T1274 (mkF m 171 #[.val (.int sp), .val (.int qc), .val (.int mc), .val (.int lb), .val (.int lq), .val (.int 0), .val (.int 3), .val (.ref a831), .val (.ref a854), .val (.ref ra_889), .val (.ref ra_1209), .val (.ref a1231), .val (.ref ra_1274), .unset] [(.int 3)]) _
     refine w_istore (pc' := 173) (l' := #[.val (.int sp), .val (.int qc), .val (.int mc), .val (.int lb), .val (.int lq), .val (.int 0), .val (.int 3), .val (.ref a831), .val (.ref a854), .val (.ref ra_889), .val (.ref ra_1209), .val (.ref a1231), .val (.ref ra_1274), .val (.int 3)]) X1274 hx hby at_171 rfl rfl ?_
     refine w_aload (pc' := 175) X1274 hx hby at_173 rfl rfl rfl ?_
     obtain ⟨cq1310, kq1310, q1310a, q1310b, q1310c⟩ := isOf hZ889 (rfl : T1274.heap = T1274.heap) fq1274_0
     obtain ⟨_, _, ⟨T1310, L1310, k1310, n1310⟩, -, X1310, ⟨Lc1310, hQ1310, l1310, y1310, z1310⟩, st1310⟩ := X1274.virtualBack hx (y := (⟨"java/lang/String", "length", "()I"⟩ : MethodName)) (z := (⟨"java/lang/String", "length", "()I"⟩ : MethodName)) hown889 (mvT hZ889 (wi hw 153 rfl)) (mvT hZ889 (wi hw 67 rfl)) (notFace_of_selects (args := #[]) (mvT hZ889 (wi hw 69 rfl))) (mvT hZ889 (wi hw 69 rfl)) (mvT hZ889 (wi hw 68 rfl)) (by decide) (backOf (W := 0) (rm_length l Z a0 hw [] G1 ra_1274 0 t_1274 kt_1274 3 ([(.int (own_by na)), (.int (own_by nb)), (.int (own_by nc))]) (.int 0) T1274.heap h0.size Z1306 (O2) (P5) fq1274_1 (Or.inl rfl) fq1274_2 f1308 fq1274_0 Old1304) hZ889 (wi hw 70 rfl) (wi hw 6 rfl) (by decide) (by decide)) q1310a q1310c (g := (mkF m 175 #[.val (.int sp), .val (.int qc), .val (.int mc), .val (.int lb), .val (.int lq), .val (.int 0), .val (.int 3), .val (.ref a831), .val (.ref a854), .val (.ref ra_889), .val (.ref ra_1209), .val (.ref a1231), .val (.ref ra_1274), .val (.int 3)] [(.ref ra_1274)])) rfl (by rw [hml]; rfl) (Steps.refl _) (argsL := []) (rest := []) (lenOf pd___I rfl) rfl (by show 2 * 0 + _ ≤ _; exact Nat.le_of_eq rfl) (hb hby at_175) (fun _ _ => ⟨rfl, (rfl : T1274.heap = T1274.heap), (by decide : 12 + 0 ≤ _), (by decide : 62 + 0 ≤ _)⟩)
     dsimp only [Pt.U, Pt.locs, Pt.cells, Pt.slots] at X1310 l1310 y1310 z1310 st1310 hQ1310
     subst l1310 y1310 z1310
     obtain ⟨rfl, NQ1310, K1310⟩ := hQ1310
     have N1311 := Fr.app N1275 NQ1310
     refine Rch.st (fun _ k => st1310.trans k) ?_
     show Rch p e below T1310 (mkF m 178 #[.val (.int sp), .val (.int qc), .val (.int mc), .val (.int lb), .val (.int lq), .val (.int 0), .val (.int 3), .val (.ref a831), .val (.ref a854), .val (.ref ra_889), .val (.ref ra_1209), .val (.ref a1231), .val (.ref ra_1274), .val (.int 3)] [(.int ((3 : Int32) >>> ((0 : Int32) &&& 31)))]) _
     refine w_iload (pc' := 180) X1310 hx hby at_178 rfl rfl ?_
     refine w_icmpYes (pc' := 185) X1310 hx hby at_180 (XT.ii_eq_t (by decide)) (by decide) ?_
     refine w_aload (pc' := 187) X1310 hx hby at_185 rfl rfl rfl ?_
     refine w_iconst (pc' := 188) (v := 0) X1310 hx hby at_187 rfl rfl ?_
     refine w_iload (pc' := 190) X1310 hx hby at_188 rfl rfl ?_
     refine w_iload (pc' := 192) X1310 hx hby at_190 rfl rfl ?_
     refine w_iload (pc' := 194) X1310 hx hby at_192 rfl rfl ?_
     refine w_aload (pc' := 196) X1310 hx hby at_194 rfl rfl rfl ?_
     refine w_aload (pc' := 198) X1310 hx hby at_196 rfl rfl rfl ?_
     obtain ⟨_, _, ⟨T1312, L1312, k1312, n1312⟩, -, X1312, ⟨Lc1312, hQ1312, l1312, y1312, z1312⟩, st1312⟩ := Jvm.LawKit.callS X1310 hx (y := (⟨"com/example/alcance/alcance/IdentifiersQuotedPinLaw", "ok", "(Ljava/lang/String;IIII[C[C)Z"⟩ : MethodName)) hown889 (mvT hZ889 (wi hw 154 rfl)) (mvT hZ889 (wi hw 155 rfl)) (mvT hZ889 (wi hw 3 rfl)) (mvT hZ889 (wi hw 156 rfl)) (by decide) (backOf (W := 0) (rm_ok_B l Z a0 hw [] G1 G3 ra_1274 t_1274 kt_1274 3 ([(.int (own_by na)), (.int (own_by nb)), (.int (own_by nc))]) (.int 0) 0 0 3 a831 kc831 ([(.int qa), (.int qb)]) (.int 0) a854 kc854 ([(.int na), (.int nb), (.int nc)]) (.int 0) na 3 T1274.heap h0.size Z1306 (O2) (P5) (O4) (rG3) fq1274_0 fq1274_1 fq1274_2 f1308 f1292 f1293 (by decide) (by decide) (⟨by decide, by decide⟩) (by rfl) (ch_na) (by decide) (by decide) (by decide) (by rfl) Old1304) hZ889 (wi hw 156 rfl) (wi hw 3 rfl) (by decide) (by decide)) (g := (mkF m 198 #[.val (.int sp), .val (.int qc), .val (.int mc), .val (.int lb), .val (.int lq), .val (.int 0), .val (.int 3), .val (.ref a831), .val (.ref a854), .val (.ref ra_889), .val (.ref ra_1209), .val (.ref a1231), .val (.ref ra_1274), .val (.int 3)] [(.ref a854), (.ref a831), (.int 3), (.int 0), (.int 3), (.int 0), (.ref ra_1274)])) rfl (by rw [hml]; rfl) (argsL := [(.ref ra_1274), (.int 0), (.int 3), (.int 0), (.int 3), (.ref a831), (.ref a854)]) (rest := []) (lenOf pd__Ljava_lang_String_IIII_C_C_Z rfl) rfl (by show 2 * 0 + _ ≤ _; exact Nat.le_of_eq rfl) (hb hby at_198) (fun _ _ => ⟨rfl, K1310, (by decide : 12 + 0 ≤ _), (by decide : 62 + 0 ≤ _)⟩)
     dsimp only [Pt.U, Pt.locs, Pt.cells, Pt.slots] at X1312 l1312 y1312 z1312 st1312 hQ1312
     subst l1312 y1312 z1312
     obtain ⟨rfl, NQ1312, K1312⟩ := hQ1312
     have N1313 := Fr.app N1311 NQ1312
     refine Rch.st (fun _ k => st1312 _ k) ?_
     show Rch p e below T1312 (mkF m 201 #[.val (.int sp), .val (.int qc), .val (.int mc), .val (.int lb), .val (.int lq), .val (.int 0), .val (.int 3), .val (.ref a831), .val (.ref a854), .val (.ref ra_889), .val (.ref ra_1209), .val (.ref a1231), .val (.ref ra_1274), .val (.int 3)] [(.int 1)]) _
     refine w_ifNo (pc' := 204) X1312 hx hby at_201 (XT.i0_eq_f (by decide)) rfl ?_
     refine w_aload (pc' := 206) X1312 hx hby at_204 rfl rfl rfl ?_
     refine w_iconst (pc' := 207) (v := 1) X1312 hx hby at_206 rfl rfl ?_
     refine w_iload (pc' := 209) X1312 hx hby at_207 rfl rfl ?_
     refine w_iload (pc' := 211) X1312 hx hby at_209 rfl rfl ?_
     refine w_iload (pc' := 213) X1312 hx hby at_211 rfl rfl ?_
     refine w_aload (pc' := 215) X1312 hx hby at_213 rfl rfl rfl ?_
     refine w_aload (pc' := 217) X1312 hx hby at_215 rfl rfl rfl ?_
     obtain ⟨_, _, ⟨T1314, L1314, k1314, n1314⟩, -, X1314, ⟨Lc1314, hQ1314, l1314, y1314, z1314⟩, st1314⟩ := Jvm.LawKit.callS X1312 hx (y := (⟨"com/example/alcance/alcance/IdentifiersQuotedPinLaw", "ok", "(Ljava/lang/String;IIII[C[C)Z"⟩ : MethodName)) hown889 (mvT hZ889 (wi hw 154 rfl)) (mvT hZ889 (wi hw 155 rfl)) (mvT hZ889 (wi hw 3 rfl)) (mvT hZ889 (wi hw 156 rfl)) (by decide) (backOf (W := 0) (rm_ok_B l Z a0 hw [] G1 G3 ra_1274 t_1274 kt_1274 3 ([(.int (own_by na)), (.int (own_by nb)), (.int (own_by nc))]) (.int 0) 1 0 3 a831 kc831 ([(.int qa), (.int qb)]) (.int 0) a854 kc854 ([(.int na), (.int nb), (.int nc)]) (.int 0) nb 3 T1274.heap h0.size Z1306 (O2) (P5) (O4) (rG3) fq1274_0 fq1274_1 fq1274_2 f1308 f1292 f1293 (by decide) (by decide) (⟨by decide, by decide⟩) (by rfl) (ch_nb) (by decide) (by decide) (by decide) (by rfl) Old1304) hZ889 (wi hw 156 rfl) (wi hw 3 rfl) (by decide) (by decide)) (g := (mkF m 217 #[.val (.int sp), .val (.int qc), .val (.int mc), .val (.int lb), .val (.int lq), .val (.int 0), .val (.int 3), .val (.ref a831), .val (.ref a854), .val (.ref ra_889), .val (.ref ra_1209), .val (.ref a1231), .val (.ref ra_1274), .val (.int 3)] [(.ref a854), (.ref a831), (.int 3), (.int 0), (.int 3), (.int 1), (.ref ra_1274)])) rfl (by rw [hml]; rfl) (argsL := [(.ref ra_1274), (.int 1), (.int 3), (.int 0), (.int 3), (.ref a831), (.ref a854)]) (rest := []) (lenOf pd__Ljava_lang_String_IIII_C_C_Z rfl) rfl (by show 2 * 0 + _ ≤ _; exact Nat.le_of_eq rfl) (hb hby at_217) (fun _ _ => ⟨rfl, K1312, (by decide : 12 + 0 ≤ _), (by decide : 62 + 0 ≤ _)⟩)
     dsimp only [Pt.U, Pt.locs, Pt.cells, Pt.slots] at X1314 l1314 y1314 z1314 st1314 hQ1314
     subst l1314 y1314 z1314
     obtain ⟨rfl, NQ1314, K1314⟩ := hQ1314
     have N1315 := Fr.app N1313 NQ1314
     refine Rch.st (fun _ k => st1314 _ k) ?_
     show Rch p e below T1314 (mkF m 220 #[.val (.int sp), .val (.int qc), .val (.int mc), .val (.int lb), .val (.int lq), .val (.int 0), .val (.int 3), .val (.ref a831), .val (.ref a854), .val (.ref ra_889), .val (.ref ra_1209), .val (.ref a1231), .val (.ref ra_1274), .val (.int 3)] [(.int 1)]) _
     refine w_ifNo (pc' := 223) X1314 hx hby at_220 (XT.i0_eq_f (by decide)) rfl ?_
     refine w_aload (pc' := 225) X1314 hx hby at_223 rfl rfl rfl ?_
     refine w_iconst (pc' := 226) (v := 2) X1314 hx hby at_225 rfl rfl ?_
     refine w_iload (pc' := 228) X1314 hx hby at_226 rfl rfl ?_
     refine w_iload (pc' := 230) X1314 hx hby at_228 rfl rfl ?_
     refine w_iload (pc' := 232) X1314 hx hby at_230 rfl rfl ?_
     refine w_aload (pc' := 234) X1314 hx hby at_232 rfl rfl rfl ?_
     refine w_aload (pc' := 236) X1314 hx hby at_234 rfl rfl rfl ?_
     obtain ⟨_, _, ⟨T1316, L1316, k1316, n1316⟩, -, X1316, ⟨Lc1316, hQ1316, l1316, y1316, z1316⟩, st1316⟩ := Jvm.LawKit.callS X1314 hx (y := (⟨"com/example/alcance/alcance/IdentifiersQuotedPinLaw", "ok", "(Ljava/lang/String;IIII[C[C)Z"⟩ : MethodName)) hown889 (mvT hZ889 (wi hw 154 rfl)) (mvT hZ889 (wi hw 155 rfl)) (mvT hZ889 (wi hw 3 rfl)) (mvT hZ889 (wi hw 156 rfl)) (by decide) (backOf (W := 0) (rm_ok_B l Z a0 hw [] G1 G3 ra_1274 t_1274 kt_1274 3 ([(.int (own_by na)), (.int (own_by nb)), (.int (own_by nc))]) (.int 0) 2 0 3 a831 kc831 ([(.int qa), (.int qb)]) (.int 0) a854 kc854 ([(.int na), (.int nb), (.int nc)]) (.int 0) nc 3 T1274.heap h0.size Z1306 (O2) (P5) (O4) (rG3) fq1274_0 fq1274_1 fq1274_2 f1308 f1292 f1293 (by decide) (by decide) (⟨by decide, by decide⟩) (by rfl) (ch_nc) (by decide) (by decide) (by decide) (by rfl) Old1304) hZ889 (wi hw 156 rfl) (wi hw 3 rfl) (by decide) (by decide)) (g := (mkF m 236 #[.val (.int sp), .val (.int qc), .val (.int mc), .val (.int lb), .val (.int lq), .val (.int 0), .val (.int 3), .val (.ref a831), .val (.ref a854), .val (.ref ra_889), .val (.ref ra_1209), .val (.ref a1231), .val (.ref ra_1274), .val (.int 3)] [(.ref a854), (.ref a831), (.int 3), (.int 0), (.int 3), (.int 2), (.ref ra_1274)])) rfl (by rw [hml]; rfl) (argsL := [(.ref ra_1274), (.int 2), (.int 3), (.int 0), (.int 3), (.ref a831), (.ref a854)]) (rest := []) (lenOf pd__Ljava_lang_String_IIII_C_C_Z rfl) rfl (by show 2 * 0 + _ ≤ _; exact Nat.le_of_eq rfl) (hb hby at_236) (fun _ _ => ⟨rfl, K1314, (by decide : 12 + 0 ≤ _), (by decide : 62 + 0 ≤ _)⟩)
     dsimp only [Pt.U, Pt.locs, Pt.cells, Pt.slots] at X1316 l1316 y1316 z1316 st1316 hQ1316
     subst l1316 y1316 z1316
     obtain ⟨rfl, NQ1316, K1316⟩ := hQ1316
     have N1317 := Fr.app N1315 NQ1316
     refine Rch.st (fun _ k => st1316 _ k) ?_
     show Rch p e below T1316 (mkF m 239 #[.val (.int sp), .val (.int qc), .val (.int mc), .val (.int lb), .val (.int lq), .val (.int 0), .val (.int 3), .val (.ref a831), .val (.ref a854), .val (.ref ra_889), .val (.ref ra_1209), .val (.ref a1231), .val (.ref ra_1274), .val (.int 3)] [(.int 1)]) _
     refine w_ifNo (pc' := 242) X1316 hx hby at_239 (XT.i0_eq_f (by decide)) rfl ?_
     refine w_aload (pc' := 244) X1316 hx hby at_242 rfl rfl rfl ?_
     refine w_iconst (pc' := 245) (v := 3) X1316 hx hby at_244 rfl rfl ?_
     refine w_iload (pc' := 247) X1316 hx hby at_245 rfl rfl ?_
     refine w_iload (pc' := 249) X1316 hx hby at_247 rfl rfl ?_
     refine w_iload (pc' := 251) X1316 hx hby at_249 rfl rfl ?_
     refine w_aload (pc' := 253) X1316 hx hby at_251 rfl rfl rfl ?_
     refine w_aload (pc' := 255) X1316 hx hby at_253 rfl rfl rfl ?_
     obtain ⟨_, _, ⟨T1318, L1318, k1318, n1318⟩, -, X1318, ⟨Lc1318, hQ1318, l1318, y1318, z1318⟩, st1318⟩ := Jvm.LawKit.callS X1316 hx (y := (⟨"com/example/alcance/alcance/IdentifiersQuotedPinLaw", "ok", "(Ljava/lang/String;IIII[C[C)Z"⟩ : MethodName)) hown889 (mvT hZ889 (wi hw 154 rfl)) (mvT hZ889 (wi hw 155 rfl)) (mvT hZ889 (wi hw 3 rfl)) (mvT hZ889 (wi hw 156 rfl)) (by decide) (backOf (W := 0) (rm_ok_far l Z a0 hw [] ra_1274 3 3 0 3 a831 a854 T1274.heap h0.size Z1306 (by decide)) hZ889 (wi hw 156 rfl) (wi hw 3 rfl) (by decide) (by decide)) (g := (mkF m 255 #[.val (.int sp), .val (.int qc), .val (.int mc), .val (.int lb), .val (.int lq), .val (.int 0), .val (.int 3), .val (.ref a831), .val (.ref a854), .val (.ref ra_889), .val (.ref ra_1209), .val (.ref a1231), .val (.ref ra_1274), .val (.int 3)] [(.ref a854), (.ref a831), (.int 3), (.int 0), (.int 3), (.int 3), (.ref ra_1274)])) rfl (by rw [hml]; rfl) (argsL := [(.ref ra_1274), (.int 3), (.int 3), (.int 0), (.int 3), (.ref a831), (.ref a854)]) (rest := []) (lenOf pd__Ljava_lang_String_IIII_C_C_Z rfl) rfl (by show 2 * 0 + _ ≤ _; exact Nat.le_of_eq rfl) (hb hby at_255) (fun _ _ => ⟨rfl, K1316, (by decide : 12 + 0 ≤ _), (by decide : 62 + 0 ≤ _)⟩)
     dsimp only [Pt.U, Pt.locs, Pt.cells, Pt.slots] at X1318 l1318 y1318 z1318 st1318 hQ1318
     subst l1318 y1318 z1318
     obtain ⟨rfl, NQ1318, K1318⟩ := hQ1318
     have N1319 := Fr.app N1317 NQ1318
     refine Rch.st (fun _ k => st1318 _ k) ?_
     show Rch p e below T1318 (mkF m 258 #[.val (.int sp), .val (.int qc), .val (.int mc), .val (.int lb), .val (.int lq), .val (.int 0), .val (.int 3), .val (.ref a831), .val (.ref a854), .val (.ref ra_889), .val (.ref ra_1209), .val (.ref a1231), .val (.ref ra_1274), .val (.int 3)] [(.int 1)]) _
     refine w_ifNo (pc' := 261) X1318 hx hby at_258 (XT.i0_eq_f (by decide)) rfl ?_
     refine w_aload (pc' := 263) X1318 hx hby at_261 rfl rfl rfl ?_
     refine w_iconst (pc' := 264) (v := 4) X1318 hx hby at_263 rfl rfl ?_
     refine w_iload (pc' := 266) X1318 hx hby at_264 rfl rfl ?_
     refine w_iload (pc' := 268) X1318 hx hby at_266 rfl rfl ?_
     refine w_iload (pc' := 270) X1318 hx hby at_268 rfl rfl ?_
     refine w_aload (pc' := 272) X1318 hx hby at_270 rfl rfl rfl ?_
     refine w_aload (pc' := 274) X1318 hx hby at_272 rfl rfl rfl ?_
     obtain ⟨_, _, ⟨T1320, L1320, k1320, n1320⟩, -, X1320, ⟨Lc1320, hQ1320, l1320, y1320, z1320⟩, st1320⟩ := Jvm.LawKit.callS X1318 hx (y := (⟨"com/example/alcance/alcance/IdentifiersQuotedPinLaw", "ok", "(Ljava/lang/String;IIII[C[C)Z"⟩ : MethodName)) hown889 (mvT hZ889 (wi hw 154 rfl)) (mvT hZ889 (wi hw 155 rfl)) (mvT hZ889 (wi hw 3 rfl)) (mvT hZ889 (wi hw 156 rfl)) (by decide) (backOf (W := 0) (rm_ok_far l Z a0 hw [] ra_1274 4 3 0 3 a831 a854 T1274.heap h0.size Z1306 (by decide)) hZ889 (wi hw 156 rfl) (wi hw 3 rfl) (by decide) (by decide)) (g := (mkF m 274 #[.val (.int sp), .val (.int qc), .val (.int mc), .val (.int lb), .val (.int lq), .val (.int 0), .val (.int 3), .val (.ref a831), .val (.ref a854), .val (.ref ra_889), .val (.ref ra_1209), .val (.ref a1231), .val (.ref ra_1274), .val (.int 3)] [(.ref a854), (.ref a831), (.int 3), (.int 0), (.int 3), (.int 4), (.ref ra_1274)])) rfl (by rw [hml]; rfl) (argsL := [(.ref ra_1274), (.int 4), (.int 3), (.int 0), (.int 3), (.ref a831), (.ref a854)]) (rest := []) (lenOf pd__Ljava_lang_String_IIII_C_C_Z rfl) rfl (by show 2 * 0 + _ ≤ _; exact Nat.le_of_eq rfl) (hb hby at_274) (fun _ _ => ⟨rfl, K1318, (by decide : 12 + 0 ≤ _), (by decide : 62 + 0 ≤ _)⟩)
     dsimp only [Pt.U, Pt.locs, Pt.cells, Pt.slots] at X1320 l1320 y1320 z1320 st1320 hQ1320
     subst l1320 y1320 z1320
     obtain ⟨rfl, NQ1320, K1320⟩ := hQ1320
     have N1321 := Fr.app N1319 NQ1320
     refine Rch.st (fun _ k => st1320 _ k) ?_
     show Rch p e below T1320 (mkF m 277 #[.val (.int sp), .val (.int qc), .val (.int mc), .val (.int lb), .val (.int lq), .val (.int 0), .val (.int 3), .val (.ref a831), .val (.ref a854), .val (.ref ra_889), .val (.ref ra_1209), .val (.ref a1231), .val (.ref ra_1274), .val (.int 3)] [(.int 1)]) _
     refine w_ifNo (pc' := 280) X1320 hx hby at_277 (XT.i0_eq_f (by decide)) rfl ?_
     refine w_aload (pc' := 282) X1320 hx hby at_280 rfl rfl rfl ?_
     refine w_iconst (pc' := 283) (v := 5) X1320 hx hby at_282 rfl rfl ?_
     refine w_iload (pc' := 285) X1320 hx hby at_283 rfl rfl ?_
     refine w_iload (pc' := 287) X1320 hx hby at_285 rfl rfl ?_
     refine w_iload (pc' := 289) X1320 hx hby at_287 rfl rfl ?_
     refine w_aload (pc' := 291) X1320 hx hby at_289 rfl rfl rfl ?_
     refine w_aload (pc' := 293) X1320 hx hby at_291 rfl rfl rfl ?_
     obtain ⟨_, _, ⟨T1322, L1322, k1322, n1322⟩, -, X1322, ⟨Lc1322, hQ1322, l1322, y1322, z1322⟩, st1322⟩ := Jvm.LawKit.callS X1320 hx (y := (⟨"com/example/alcance/alcance/IdentifiersQuotedPinLaw", "ok", "(Ljava/lang/String;IIII[C[C)Z"⟩ : MethodName)) hown889 (mvT hZ889 (wi hw 154 rfl)) (mvT hZ889 (wi hw 155 rfl)) (mvT hZ889 (wi hw 3 rfl)) (mvT hZ889 (wi hw 156 rfl)) (by decide) (backOf (W := 0) (rm_ok_far l Z a0 hw [] ra_1274 5 3 0 3 a831 a854 T1274.heap h0.size Z1306 (by decide)) hZ889 (wi hw 156 rfl) (wi hw 3 rfl) (by decide) (by decide)) (g := (mkF m 293 #[.val (.int sp), .val (.int qc), .val (.int mc), .val (.int lb), .val (.int lq), .val (.int 0), .val (.int 3), .val (.ref a831), .val (.ref a854), .val (.ref ra_889), .val (.ref ra_1209), .val (.ref a1231), .val (.ref ra_1274), .val (.int 3)] [(.ref a854), (.ref a831), (.int 3), (.int 0), (.int 3), (.int 5), (.ref ra_1274)])) rfl (by rw [hml]; rfl) (argsL := [(.ref ra_1274), (.int 5), (.int 3), (.int 0), (.int 3), (.ref a831), (.ref a854)]) (rest := []) (lenOf pd__Ljava_lang_String_IIII_C_C_Z rfl) rfl (by show 2 * 0 + _ ≤ _; exact Nat.le_of_eq rfl) (hb hby at_293) (fun _ _ => ⟨rfl, K1320, (by decide : 12 + 0 ≤ _), (by decide : 62 + 0 ≤ _)⟩)
     dsimp only [Pt.U, Pt.locs, Pt.cells, Pt.slots] at X1322 l1322 y1322 z1322 st1322 hQ1322
     subst l1322 y1322 z1322
     obtain ⟨rfl, NQ1322, K1322⟩ := hQ1322
     have N1323 := Fr.app N1321 NQ1322
     refine Rch.st (fun _ k => st1322 _ k) ?_
     show Rch p e below T1322 (mkF m 296 #[.val (.int sp), .val (.int qc), .val (.int mc), .val (.int lb), .val (.int lq), .val (.int 0), .val (.int 3), .val (.ref a831), .val (.ref a854), .val (.ref ra_889), .val (.ref ra_1209), .val (.ref a1231), .val (.ref ra_1274), .val (.int 3)] [(.int 1)]) _
     refine w_ifNo (pc' := 299) X1322 hx hby at_296 (XT.i0_eq_f (by decide)) rfl ?_
     refine w_aload (pc' := 301) X1322 hx hby at_299 rfl rfl rfl ?_
     refine w_bipush (pc' := 303) (v := 6) X1322 hx hby at_301 rfl rfl ?_
     refine w_iload (pc' := 305) X1322 hx hby at_303 rfl rfl ?_
     refine w_iload (pc' := 307) X1322 hx hby at_305 rfl rfl ?_
     refine w_iload (pc' := 309) X1322 hx hby at_307 rfl rfl ?_
     refine w_aload (pc' := 311) X1322 hx hby at_309 rfl rfl rfl ?_
     refine w_aload (pc' := 313) X1322 hx hby at_311 rfl rfl rfl ?_
     obtain ⟨_, _, ⟨T1324, L1324, k1324, n1324⟩, -, X1324, ⟨Lc1324, hQ1324, l1324, y1324, z1324⟩, st1324⟩ := Jvm.LawKit.callS X1322 hx (y := (⟨"com/example/alcance/alcance/IdentifiersQuotedPinLaw", "ok", "(Ljava/lang/String;IIII[C[C)Z"⟩ : MethodName)) hown889 (mvT hZ889 (wi hw 154 rfl)) (mvT hZ889 (wi hw 155 rfl)) (mvT hZ889 (wi hw 3 rfl)) (mvT hZ889 (wi hw 156 rfl)) (by decide) (backOf (W := 0) (rm_ok_far l Z a0 hw [] ra_1274 6 3 0 3 a831 a854 T1274.heap h0.size Z1306 (by decide)) hZ889 (wi hw 156 rfl) (wi hw 3 rfl) (by decide) (by decide)) (g := (mkF m 313 #[.val (.int sp), .val (.int qc), .val (.int mc), .val (.int lb), .val (.int lq), .val (.int 0), .val (.int 3), .val (.ref a831), .val (.ref a854), .val (.ref ra_889), .val (.ref ra_1209), .val (.ref a1231), .val (.ref ra_1274), .val (.int 3)] [(.ref a854), (.ref a831), (.int 3), (.int 0), (.int 3), (.int 6), (.ref ra_1274)])) rfl (by rw [hml]; rfl) (argsL := [(.ref ra_1274), (.int 6), (.int 3), (.int 0), (.int 3), (.ref a831), (.ref a854)]) (rest := []) (lenOf pd__Ljava_lang_String_IIII_C_C_Z rfl) rfl (by show 2 * 0 + _ ≤ _; exact Nat.le_of_eq rfl) (hb hby at_313) (fun _ _ => ⟨rfl, K1322, (by decide : 12 + 0 ≤ _), (by decide : 62 + 0 ≤ _)⟩)
     dsimp only [Pt.U, Pt.locs, Pt.cells, Pt.slots] at X1324 l1324 y1324 z1324 st1324 hQ1324
     subst l1324 y1324 z1324
     obtain ⟨rfl, NQ1324, K1324⟩ := hQ1324
     have N1325 := Fr.app N1323 NQ1324
     refine Rch.st (fun _ k => st1324 _ k) ?_
     show Rch p e below T1324 (mkF m 316 #[.val (.int sp), .val (.int qc), .val (.int mc), .val (.int lb), .val (.int lq), .val (.int 0), .val (.int 3), .val (.ref a831), .val (.ref a854), .val (.ref ra_889), .val (.ref ra_1209), .val (.ref a1231), .val (.ref ra_1274), .val (.int 3)] [(.int 1)]) _
     refine w_ifNo (pc' := 319) X1324 hx hby at_316 (XT.i0_eq_f (by decide)) rfl ?_
     refine w_iconst (pc' := 320) (v := 1) X1324 hx hby at_319 rfl rfl ?_
     refine w_goto (pc' := 324) X1324 hx hby at_320 (by decide) ?_
     exact Rch.retVW X1324 hx hS889 (by rw [K1324]; exact hk1307) Bd.returns rfl (Or.inl ⟨rfl, by simp, _, rfl⟩) (hb hby at_324) (by rw [K1324]; exact ⟨rfl, (own_Fr Z0 N1325), Kp1305, own_ib_mono (own_ib (s := s.setVm T889.vm) IQ889 X1324.warmed) (by decide)⟩) (by decide) (by decide)
   ·skip
    show Rch p e below T880 (mkF m 117 #[.val (.int sp), .val (.int qc), .val (.int mc), .val (.int lb), .val (.int lq), .val (.int 1), .val (.int nl), .val (.ref a831), .val (.ref a854), .unset, .unset, .unset, .unset, .unset] [(.int 1), (.ref a854), (.ref a831), (.int 1)]) _
    obtain ⟨_, _, ⟨T1326, L1326, k1326, n1326⟩, -, X1326, ⟨Lc1326, hQ1326, l1326, y1326, z1326⟩, st1326⟩ := Jvm.LawKit.callS X880 hx (y := (⟨"com/example/alcance/alcance/IdentifiersQuotedPinLaw", "make", "(I[C[CZ)Ljava/lang/String;"⟩ : MethodName)) hown (mvT hZ (wi hw 1 rfl)) (mvT hZ (wi hw 2 rfl)) (mvT hZ (wi hw 3 rfl)) (mvT hZ (wi hw 4 rfl)) (by decide) (backOf (W := 0) (rm_mk_1_1 l Z a0 hw [] G1 a831 a854 kc831 qa qb h880 h0.size Z884 (O2) (P5) f882 (ch_qa) Old883) hZ (wi hw 4 rfl) (wi hw 3 rfl) (by decide) (by decide)) (g := (mkF m 117 #[.val (.int sp), .val (.int qc), .val (.int mc), .val (.int lb), .val (.int lq), .val (.int 1), .val (.int nl), .val (.ref a831), .val (.ref a854), .unset, .unset, .unset, .unset, .unset] [(.int 1), (.ref a854), (.ref a831), (.int 1)])) rfl (by rw [hml]; rfl) (argsL := [(.int 1), (.ref a831), (.ref a854), (.int 1)]) (rest := []) (lenOf pd__I_C_CZ_Ljava_lang_String_ rfl) rfl (by show 2 * 0 + _ ≤ _; exact Nat.le_of_eq rfl) (hb hby at_117) (fun _ _ => ⟨rfl, e880, (by decide : 2 + 2 ≤ _), (by decide : 5 + 5 ≤ _)⟩)
    dsimp only [Pt.U, Pt.locs, Pt.cells, Pt.slots] at X1326 l1326 y1326 z1326 st1326 hQ1326
    subst l1326 y1326 z1326
    obtain ⟨ra_1326, t_1326, kt_1326, rfl, NQ1326, K1326, pq1326_0, pq1326_1, fq1326_0, fq1326_1, fq1326_2, fq1326_3⟩ := hQ1326
    have N1327 := Fr.app N881 NQ1326
    have f1334 := f882.keep K1326 nin0
    have f1335 := f888.keep K1326 nin0
    have Old1336 := Old883.keep K1326 all0
    have Kp1337 : Keep h0 T1326.heap [] := Kp886.trans K1326 all0
    have Z1338 := Nat.le_trans Z884 K1326.1
    have hk1339 := Nat.le_trans hk885 K1326.1
    refine Rch.st (fun _ k => st1326 _ k) ?_
    show Rch p e below T1326 (mkF m 120 #[.val (.int sp), .val (.int qc), .val (.int mc), .val (.int lb), .val (.int lq), .val (.int 1), .val (.int nl), .val (.ref a831), .val (.ref a854), .unset, .unset, .unset, .unset, .unset] [(.ref ra_1326)]) _
    refine w_astore (pc' := 122) (l' := #[.val (.int sp), .val (.int qc), .val (.int mc), .val (.int lb), .val (.int lq), .val (.int 1), .val (.int nl), .val (.ref a831), .val (.ref a854), .val (.ref ra_1326), .unset, .unset, .unset, .unset]) X1326 hx hby at_120 rfl rfl rfl ?_
    refine w_iload (pc' := 124) X1326 hx hby at_122 rfl rfl ?_
    refine w_aload (pc' := 126) X1326 hx hby at_124 rfl rfl rfl ?_
    refine w_aload (pc' := 128) X1326 hx hby at_126 rfl rfl rfl ?_
    refine w_iconst (pc' := 129) (v := 0) X1326 hx hby at_128 rfl rfl ?_
    rcases (hnl ▸ own_and3 _ : nl = 0 ∨ nl = 1 ∨ nl = 2 ∨ nl = 3) with rfl | rfl | rfl | rfl
    ·skip
     show Rch p e below T1326 (mkF m 129 #[.val (.int sp), .val (.int qc), .val (.int mc), .val (.int lb), .val (.int lq), .val (.int 1), .val (.int 0), .val (.ref a831), .val (.ref a854), .val (.ref ra_1326), .unset, .unset, .unset, .unset] [(.int 0), (.ref a854), (.ref a831), (.int 0)]) _
     obtain ⟨_, _, ⟨T1340, L1340, k1340, n1340⟩, -, X1340, hSx1340, hgx1340, ⟨Lc1340, hQ1340, l1340, y1340, z1340⟩, st1340⟩ := callSS X1326 hx (y := (⟨"com/example/alcance/alcance/IdentifiersQuotedPinLaw", "make", "(I[C[CZ)Ljava/lang/String;"⟩ : MethodName)) hown (mvT hZ (wi hw 1 rfl)) (mvT hZ (wi hw 2 rfl)) (mvT hZ (wi hw 3 rfl)) (mvT hZ (wi hw 4 rfl)) (by decide) (backOfV (PV := fun vm => IB Z vm ([] : List String)) (W := 0) (rm_mk_0_0 l Z a0 hw [] a831 a854 T1326.heap h0.size Z1338 (H32) (hcw) Old1336) hZ (fun vm hW => own_ib (s := s.setVm s.vm) hI hW) (wi hw 4 rfl) (wi hw 3 rfl) (by decide) (by decide)) (g := (mkF m 129 #[.val (.int sp), .val (.int qc), .val (.int mc), .val (.int lb), .val (.int lq), .val (.int 1), .val (.int 0), .val (.ref a831), .val (.ref a854), .val (.ref ra_1326), .unset, .unset, .unset, .unset] [(.int 0), (.ref a854), (.ref a831), (.int 0)])) rfl (by rw [hml]; rfl) (argsL := [(.int 0), (.ref a831), (.ref a854), (.int 0)]) (rest := []) (lenOf pd__I_C_CZ_Ljava_lang_String_ rfl) rfl (by show 2 * 0 + _ ≤ _; exact Nat.le_of_eq rfl) (hb hby at_129) (fun _ _ => ⟨rfl, (rfl : T1326.heap = T1326.heap), (by decide : 4 + 2 ≤ _), (by decide : 10 + 4 ≤ _)⟩)
     dsimp only [Pt.U, Pt.locs, Pt.cells, Pt.slots] at X1340 l1340 y1340 z1340 st1340 hQ1340 hSx1340 hgx1340
     subst l1340 y1340 z1340
     have hS1340 := foldS hS0 (by rw [(rfl : T1326.heap = T1326.heap)]; exact hk1339) hSx1340 hgx1340
     have hk1340 : T1340.heap.size ≤ T1340.heap.size := Nat.le_refl _
     have hZ1340 : Z.Warmed39 (s.setVm T1340.vm).vm := State.Warmed39.trans (t := s.setVm s.vm) hZ hSx1340.1
     have hown1340 : (s.setVm T1340.vm).vm.findClass "com/example/alcance/alcance/IdentifiersQuotedPinLaw" = some m.cls := by rw [show (s.setVm T1340.vm).vm = T1340.vm from rfl, hSx1340.1.alike.findClass]; exact hown
     have X1340w : Stand p l e room_1 (s.setVm T1340.vm) m _ below meth c T1340 _ _ _ := X1340
     obtain ⟨ra_1340, t_1340, kt_1340, rfl, NQ1340, K1340, fq1340_0, fq1340_1, fq1340_2, fq1340_3, IQ1340, LQ1340_0⟩ := hQ1340
     have N1341 := Fr.app N1327 NQ1340
     have f1342 := f1334.keep K1340 nin0
     have f1343 := f1335.keep K1340 nin0
     have f1344 := fq1326_0.keep K1340
     have f1345 := fq1326_1.keep K1340 nin0
     have f1346 := fq1326_2.keep K1340 nin0
     have f1347 := fq1326_3.keep K1340 nin0
     have Old1348 := Old1336.keep K1340 all0
     have Kp1349 : Keep h0 T1340.heap [] := Kp1337.trans K1340 all0
     have Z1350 := Nat.le_trans Z1338 K1340.1
     refine Rch.st (fun _ k => st1340.trans k) ?_
     show Rch p e below T1340 (mkF m 132 #[.val (.int sp), .val (.int qc), .val (.int mc), .val (.int lb), .val (.int lq), .val (.int 1), .val (.int 0), .val (.ref a831), .val (.ref a854), .val (.ref ra_1326), .unset, .unset, .unset, .unset] [(.ref ra_1340)]) _
     refine w_astore (pc' := 134) (l' := #[.val (.int sp), .val (.int qc), .val (.int mc), .val (.int lb), .val (.int lq), .val (.int 1), .val (.int 0), .val (.ref a831), .val (.ref a854), .val (.ref ra_1326), .val (.ref ra_1340), .unset, .unset, .unset]) X1340w hx hby at_132 rfl rfl rfl ?_
     obtain ⟨T1351, h1351, X1351, e1351, E1351, A1351, D1351, -, st1351⟩ := newO X1340w hx hZ1340 hown1340 (wi hw 13 rfl) (wi hw 14 rfl) (wi hw 15 rfl) (rfl : T1340.heap = T1340.heap) (g := (mkF m 134 #[.val (.int sp), .val (.int qc), .val (.int mc), .val (.int lb), .val (.int lq), .val (.int 1), .val (.int 0), .val (.ref a831), .val (.ref a854), .val (.ref ra_1326), .val (.ref ra_1340), .unset, .unset, .unset] [])) rfl (hb hby at_134) (by decide) (by decide)
     obtain ⟨a1351, g1351⟩ : ∃ z, z = T1340.heap.size := ⟨_, rfl⟩
     rw [← g1351] at A1351 D1351 st1351
     have ne1352 : a831 ≠ a1351 := by rw [g1351]; exact Nat.ne_of_lt f1342.lt
     have ne1353 : a854 ≠ a1351 := by rw [g1351]; exact Nat.ne_of_lt f1343.lt
     have ne1354 : ra_1326 ≠ a1351 := by rw [g1351]; exact Nat.ne_of_lt f1344.lt
     have ne1355 : ra_1340 ≠ a1351 := by rw [g1351]; exact Nat.ne_of_lt fq1340_0.lt
     have ne1356 : t_1326 ≠ a1351 := by rw [g1351]; exact Nat.ne_of_lt f1347.lt
     have ne1357 : t_1340 ≠ a1351 := by rw [g1351]; exact Nat.ne_of_lt fq1340_3.lt
     have ge1358 : h0.size ≤ a1351 := Nat.le_trans Z1350 (Nat.le_of_eq g1351.symm)
     have hk1360 := Nat.le_trans hk1340 E1351.1
     have f1361 := f1342.ext E1351
     have f1362 := f1343.ext E1351
     have f1363 := f1344.ext E1351
     have f1364 := f1345.ext E1351
     have f1365 := f1346.ext E1351
     have f1366 := f1347.ext E1351
     have f1367 := fq1340_0.ext E1351
     have f1368 := fq1340_1.ext E1351
     have f1369 := fq1340_2.ext E1351
     have f1370 := fq1340_3.ext E1351
     have Old1371 := Old1348.ext E1351
     have Z1372 := Nat.le_trans Z1350 E1351.1
     have Kp1373 : Keep h0 h1351 [] := Kp1349.ext E1351
     have f1374 : Fld Z h1351 a1351 "com/example/alcance/alcance/Identifiers" "lowersBare" "Z" (.int (0 : Int32)) := D1351 (Or.inr (wi hw 28 rfl)) (ty := .boolean) (by decide)
     have f1375 : Fld Z h1351 a1351 "com/example/alcance/alcance/Identifiers" "lowersQuoted" "Z" (.int (0 : Int32)) := D1351 (Or.inr (wi hw 30 rfl)) (ty := .boolean) (by decide)
     have f1376 : Fld Z h1351 a1351 "com/example/alcance/alcance/Identifiers" "quote" "Ljava/lang/String;" .null := D1351 (Or.inr (wi hw 32 rfl)) (ty := (.object "java/lang/String")) (by decide)
     refine Rch.st (fun _ k => st1351 _ k) ?_
     show Rch p e below T1351 (mkF m 137 #[.val (.int sp), .val (.int qc), .val (.int mc), .val (.int lb), .val (.int lq), .val (.int 1), .val (.int 0), .val (.ref a831), .val (.ref a854), .val (.ref ra_1326), .val (.ref ra_1340), .unset, .unset, .unset] [(.ref a1351)]) _
     refine w_dup (pc' := 138) X1351 hx hby at_137 rfl rfl ?_
     refine w_iloadN (pc' := 139) X1351 hx hby at_138 rfl rfl ?_
     refine w_iload (pc' := 141) X1351 hx hby at_139 rfl rfl ?_
     refine w_aload (pc' := 143) X1351 hx hby at_141 rfl rfl rfl ?_
     obtain ⟨_, _, ⟨T1377, L1377, k1377, n1377⟩, -, X1377, ⟨Lc1377, hQ1377, l1377, y1377, z1377⟩, st1377⟩ := X1351.specialBack hx (y := (⟨"com/example/alcance/alcance/Identifiers", "<init>", "(ZZLjava/lang/String;)V"⟩ : MethodName)) rfl hown1340 (mvT hZ1340 (wi hw 16 rfl)) (mvT hZ1340 (wi hw 17 rfl)) (mvT hZ1340 (wi hw 18 rfl)) (by decide) (backOf (W := 1) (rm_id l Z a0 hw [] a1351 lb lq ra_1326 h1351 h0.size Z1372 A1351 f1374 f1375 f1376 (ge1358) (hlb) (hlq)) hZ1340 (wi hw 18 rfl) (wi hw 15 rfl) (by decide) (by decide)) (g := (mkF m 143 #[.val (.int sp), .val (.int qc), .val (.int mc), .val (.int lb), .val (.int lq), .val (.int 1), .val (.int 0), .val (.ref a831), .val (.ref a854), .val (.ref ra_1326), .val (.ref ra_1340), .unset, .unset, .unset] [(.ref ra_1326), (.int lq), (.int lb), (.ref a1351), (.ref a1351)])) rfl (by rw [hml]; rfl) (Steps.refl _) (a := a1351) (argsL := [(.int lb), (.int lq), (.ref ra_1326)]) (rest := [(.ref a1351)]) (lenOf pd__ZZLjava_lang_String__V rfl) rfl (by show 2 * 0 + _ ≤ _; exact Nat.le_of_eq rfl) (hb hby at_143) (fun _ _ => ⟨rfl, e1351, (by decide : 7 + 0 ≤ _), (by decide : 17 + 0 ≤ _)⟩)
     dsimp only [Pt.U, Pt.locs, Pt.cells, Pt.slots] at X1377 l1377 y1377 z1377 st1377 hQ1377
     subst l1377 y1377 z1377
     obtain ⟨rfl, NQ1377, K1377, fq1377_0⟩ := hQ1377
     have N1378 := Fr.app N1341 NQ1377
     have f1379 := f1361.keep K1377 (ninS ne1352 nin0)
     have f1380 := f1362.keep K1377 (ninS ne1353 nin0)
     have f1381 := f1363.keep K1377
     have f1382 := f1364.keep K1377 (ninS ne1354 nin0)
     have f1383 := f1365.keep K1377 (ninS ne1354 nin0)
     have f1384 := f1366.keep K1377 (ninS ne1356 nin0)
     have f1385 := f1367.keep K1377
     have f1386 := f1368.keep K1377 (ninS ne1355 nin0)
     have f1387 := f1369.keep K1377 (ninS ne1355 nin0)
     have f1388 := f1370.keep K1377 (ninS ne1357 nin0)
     have f1389 := A1351.keep K1377
     have Old1390 := Old1371.keep K1377 (allS ge1358 all0)
     have Kp1391 : Keep h0 T1377.heap [] := Kp1373.trans K1377 (allS (Or.inr (Nat.le_trans Kp1349.1 (Nat.le_of_eq g1351.symm))) all0)
     have Z1392 := Nat.le_trans Z1372 K1377.1
     have hk1393 := Nat.le_trans hk1360 K1377.1
     refine Rch.st (fun _ k => st1377.trans k) ?_
     show Rch p e below T1377 (mkF m 146 #[.val (.int sp), .val (.int qc), .val (.int mc), .val (.int lb), .val (.int lq), .val (.int 1), .val (.int 0), .val (.ref a831), .val (.ref a854), .val (.ref ra_1326), .val (.ref ra_1340), .unset, .unset, .unset] [(.ref a1351)]) _
     refine w_astore (pc' := 148) (l' := #[.val (.int sp), .val (.int qc), .val (.int mc), .val (.int lb), .val (.int lq), .val (.int 1), .val (.int 0), .val (.ref a831), .val (.ref a854), .val (.ref ra_1326), .val (.ref ra_1340), .val (.ref a1351), .unset, .unset]) X1377 hx hby at_146 rfl rfl rfl ?_
     refine w_aload (pc' := 150) X1377 hx hby at_148 rfl rfl rfl ?_
     refine w_aload (pc' := 152) X1377 hx hby at_150 rfl rfl rfl ?_
     obtain ⟨cq1394, kq1394, q1394a, q1394b, q1394c⟩ := isOf hZ1340 (rfl : T1377.heap = T1377.heap) f1389
     obtain ⟨_, _, ⟨T1394, L1394, k1394, n1394⟩, -, X1394, ⟨Lc1394, hQ1394, l1394, y1394, z1394⟩, st1394⟩ := X1377.virtualBack hx (y := (⟨"com/example/alcance/alcance/Identifiers", "quoted", "(Ljava/lang/String;)Ljava/lang/String;"⟩ : MethodName)) (z := (⟨"com/example/alcance/alcance/Identifiers", "quoted", "(Ljava/lang/String;)Ljava/lang/String;"⟩ : MethodName)) hown1340 (mvT hZ1340 (wi hw 33 rfl)) (mvT hZ1340 (wi hw 34 rfl)) (notFace_of_selects (args := #[]) (mvT hZ1340 (wi hw 36 rfl))) (mvT hZ1340 (wi hw 36 rfl)) (mvT hZ1340 (wi hw 35 rfl)) (by decide) (backOf (W := 0) (rm_qu l Z a0 hw [] G1 a1351 ra_1326 t_1326 kt_1326 1 ([(.int (own_by qa))]) (.int 0) ra_1340 t_1340 kt_1340 0 ([]) (.int 0) T1377.heap h0.size Z1392 (O2) (P5) fq1377_0 f1381 f1382 f1383 f1384 f1385 f1386 f1387 f1388 (by decide) (by decide) (by decide) (by decide) (by decide) (by decide) (by decide) (by decide) (by decide) (by decide) (by decide) (by decide) (by decide) (by decide) Old1390) hZ1340 (wi hw 37 rfl) (wi hw 15 rfl) (by decide) (by decide)) q1394a q1394c (g := (mkF m 152 #[.val (.int sp), .val (.int qc), .val (.int mc), .val (.int lb), .val (.int lq), .val (.int 1), .val (.int 0), .val (.ref a831), .val (.ref a854), .val (.ref ra_1326), .val (.ref ra_1340), .val (.ref a1351), .unset, .unset] [(.ref ra_1340), (.ref a1351)])) rfl (by rw [hml]; rfl) (Steps.refl _) (argsL := [(.ref ra_1340)]) (rest := []) (lenOf pd__Ljava_lang_String__Ljava_lang_String_ rfl) rfl (by show 2 * 0 + _ ≤ _; exact Nat.le_of_eq rfl) (hb hby at_152) (fun _ _ => ⟨rfl, (rfl : T1377.heap = T1377.heap), (by decide : 7 + 4 ≤ _), (by decide : 17 + 40 ≤ _)⟩)
     dsimp only [Pt.U, Pt.locs, Pt.cells, Pt.slots] at X1394 l1394 y1394 z1394 st1394 hQ1394
     subst l1394 y1394 z1394
     obtain ⟨ra_1394, t_1394, kt_1394, rfl, NQ1394, K1394, pq1394_0, pq1394_1, fq1394_0, fq1394_1, fq1394_2, fq1394_3⟩ := hQ1394
     have N1395 := Fr.app N1378 NQ1394
     have f1412 := f1379.keep K1394 nin0
     have f1413 := f1380.keep K1394 nin0
     have Old1424 := Old1390.keep K1394 all0
     have Kp1425 : Keep h0 T1394.heap [] := Kp1391.trans K1394 all0
     have Z1426 := Nat.le_trans Z1392 K1394.1
     have hk1427 := Nat.le_trans hk1393 K1394.1
     refine Rch.st (fun _ k => st1394.trans k) ?_
     show Rch p e below T1394 (mkF m 155 #[.val (.int sp), .val (.int qc), .val (.int mc), .val (.int lb), .val (.int lq), .val (.int 1), .val (.int 0), .val (.ref a831), .val (.ref a854), .val (.ref ra_1326), .val (.ref ra_1340), .val (.ref a1351), .unset, .unset] [(.ref ra_1394)]) _
     have f1428 : Arv Z T1394.heap t_1394 kt_1394 .byte (2 : Int32) [(.int (own_by qa)), (.int (own_by qa))] (.int (0 : Int32)) := by have z := fq1394_3; rw [show ((((0 : Int32) + (1 : Int32)) + (0 : Int32)) + (1 : Int32)) = (2 : Int32) from by decide, own_cat, own_t1, own_t0] at z; exact z
     refine w_astore (pc' := 157) (l' := #[.val (.int sp), .val (.int qc), .val (.int mc), .val (.int lb), .val (.int lq), .val (.int 1), .val (.int 0), .val (.ref a831), .val (.ref a854), .val (.ref ra_1326), .val (.ref ra_1340), .val (.ref a1351), .val (.ref ra_1394), .unset]) X1394 hx hby at_155 rfl rfl rfl ?_
     refine w_aload (pc' := 159) X1394 hx hby at_157 rfl rfl rfl ?_
     refine w_nonnullYes (pc' := 164) X1394 hx hby at_159 rfl (fun q => nomatch q) (by decide) ?_
     refine w_iconst (pc' := 165) (v := 2) X1394 hx hby at_164 rfl rfl ?_
     refine w_iload (pc' := 167) X1394 hx hby at_165 rfl rfl ?_
     refine w_imul (pc' := 168) X1394 hx hby at_167 rfl ?_
     refine w_iload (pc' := 170) X1394 hx hby at_168 rfl rfl ?_
     refine w_iadd (pc' := 171) X1394 hx hby at_170 rfl ?_
     have r1429 : (((2 : Int32) * (1 : Int32)) + (0 : Int32)) = (2 : Int32) := by decide
     rw [r1429]
     show Rch p e below T1394 (mkF m 171 #[.val (.int sp), .val (.int qc), .val (.int mc), .val (.int lb), .val (.int lq), .val (.int 1), .val (.int 0), .val (.ref a831), .val (.ref a854), .val (.ref ra_1326), .val (.ref ra_1340), .val (.ref a1351), .val (.ref ra_1394), .unset] [(.int 2)]) _
     refine w_istore (pc' := 173) (l' := #[.val (.int sp), .val (.int qc), .val (.int mc), .val (.int lb), .val (.int lq), .val (.int 1), .val (.int 0), .val (.ref a831), .val (.ref a854), .val (.ref ra_1326), .val (.ref ra_1340), .val (.ref a1351), .val (.ref ra_1394), .val (.int 2)]) X1394 hx hby at_171 rfl rfl ?_
     refine w_aload (pc' := 175) X1394 hx hby at_173 rfl rfl rfl ?_
     obtain ⟨cq1430, kq1430, q1430a, q1430b, q1430c⟩ := isOf hZ1340 (rfl : T1394.heap = T1394.heap) fq1394_0
     obtain ⟨_, _, ⟨T1430, L1430, k1430, n1430⟩, -, X1430, ⟨Lc1430, hQ1430, l1430, y1430, z1430⟩, st1430⟩ := X1394.virtualBack hx (y := (⟨"java/lang/String", "length", "()I"⟩ : MethodName)) (z := (⟨"java/lang/String", "length", "()I"⟩ : MethodName)) hown1340 (mvT hZ1340 (wi hw 153 rfl)) (mvT hZ1340 (wi hw 67 rfl)) (notFace_of_selects (args := #[]) (mvT hZ1340 (wi hw 69 rfl))) (mvT hZ1340 (wi hw 69 rfl)) (mvT hZ1340 (wi hw 68 rfl)) (by decide) (backOf (W := 0) (rm_length l Z a0 hw [] G1 ra_1394 0 t_1394 kt_1394 2 ([(.int (own_by qa)), (.int (own_by qa))]) (.int 0) T1394.heap h0.size Z1426 (O2) (P5) fq1394_1 (Or.inl rfl) fq1394_2 f1428 fq1394_0 Old1424) hZ1340 (wi hw 70 rfl) (wi hw 6 rfl) (by decide) (by decide)) q1430a q1430c (g := (mkF m 175 #[.val (.int sp), .val (.int qc), .val (.int mc), .val (.int lb), .val (.int lq), .val (.int 1), .val (.int 0), .val (.ref a831), .val (.ref a854), .val (.ref ra_1326), .val (.ref ra_1340), .val (.ref a1351), .val (.ref ra_1394), .val (.int 2)] [(.ref ra_1394)])) rfl (by rw [hml]; rfl) (Steps.refl _) (argsL := []) (rest := []) (lenOf pd___I rfl) rfl (by show 2 * 0 + _ ≤ _; exact Nat.le_of_eq rfl) (hb hby at_175) (fun _ _ => ⟨rfl, (rfl : T1394.heap = T1394.heap), (by decide : 11 + 0 ≤ _), (by decide : 57 + 0 ≤ _)⟩)
     dsimp only [Pt.U, Pt.locs, Pt.cells, Pt.slots] at X1430 l1430 y1430 z1430 st1430 hQ1430
     subst l1430 y1430 z1430
     obtain ⟨rfl, NQ1430, K1430⟩ := hQ1430
     have N1431 := Fr.app N1395 NQ1430
     refine Rch.st (fun _ k => st1430.trans k) ?_
     show Rch p e below T1430 (mkF m 178 #[.val (.int sp), .val (.int qc), .val (.int mc), .val (.int lb), .val (.int lq), .val (.int 1), .val (.int 0), .val (.ref a831), .val (.ref a854), .val (.ref ra_1326), .val (.ref ra_1340), .val (.ref a1351), .val (.ref ra_1394), .val (.int 2)] [(.int ((2 : Int32) >>> ((0 : Int32) &&& 31)))]) _
     refine w_iload (pc' := 180) X1430 hx hby at_178 rfl rfl ?_
     refine w_icmpYes (pc' := 185) X1430 hx hby at_180 (XT.ii_eq_t (by decide)) (by decide) ?_
     refine w_aload (pc' := 187) X1430 hx hby at_185 rfl rfl rfl ?_
     refine w_iconst (pc' := 188) (v := 0) X1430 hx hby at_187 rfl rfl ?_
     refine w_iload (pc' := 190) X1430 hx hby at_188 rfl rfl ?_
     refine w_iload (pc' := 192) X1430 hx hby at_190 rfl rfl ?_
     refine w_iload (pc' := 194) X1430 hx hby at_192 rfl rfl ?_
     refine w_aload (pc' := 196) X1430 hx hby at_194 rfl rfl rfl ?_
     refine w_aload (pc' := 198) X1430 hx hby at_196 rfl rfl rfl ?_
     obtain ⟨_, _, ⟨T1432, L1432, k1432, n1432⟩, -, X1432, ⟨Lc1432, hQ1432, l1432, y1432, z1432⟩, st1432⟩ := Jvm.LawKit.callS X1430 hx (y := (⟨"com/example/alcance/alcance/IdentifiersQuotedPinLaw", "ok", "(Ljava/lang/String;IIII[C[C)Z"⟩ : MethodName)) hown1340 (mvT hZ1340 (wi hw 154 rfl)) (mvT hZ1340 (wi hw 155 rfl)) (mvT hZ1340 (wi hw 3 rfl)) (mvT hZ1340 (wi hw 156 rfl)) (by decide) (backOf (W := 0) (rm_ok_A l Z a0 hw [] G1 G3 ra_1394 t_1394 kt_1394 2 ([(.int (own_by qa)), (.int (own_by qa))]) (.int 0) 0 1 0 a831 kc831 ([(.int qa), (.int qb)]) (.int 0) a854 kc854 ([(.int na), (.int nb), (.int nc)]) (.int 0) qa 2 T1394.heap h0.size Z1426 (O2) (P5) (O4) (rG3) fq1394_0 fq1394_1 fq1394_2 f1428 f1412 f1413 (by decide) (⟨by decide, by decide⟩) (by rfl) (ch_qa) (by decide) (by decide) (by decide) (by rfl) Old1424) hZ1340 (wi hw 156 rfl) (wi hw 3 rfl) (by decide) (by decide)) (g := (mkF m 198 #[.val (.int sp), .val (.int qc), .val (.int mc), .val (.int lb), .val (.int lq), .val (.int 1), .val (.int 0), .val (.ref a831), .val (.ref a854), .val (.ref ra_1326), .val (.ref ra_1340), .val (.ref a1351), .val (.ref ra_1394), .val (.int 2)] [(.ref a854), (.ref a831), (.int 0), (.int 1), (.int 2), (.int 0), (.ref ra_1394)])) rfl (by rw [hml]; rfl) (argsL := [(.ref ra_1394), (.int 0), (.int 2), (.int 1), (.int 0), (.ref a831), (.ref a854)]) (rest := []) (lenOf pd__Ljava_lang_String_IIII_C_C_Z rfl) rfl (by show 2 * 0 + _ ≤ _; exact Nat.le_of_eq rfl) (hb hby at_198) (fun _ _ => ⟨rfl, K1430, (by decide : 11 + 0 ≤ _), (by decide : 57 + 0 ≤ _)⟩)
     dsimp only [Pt.U, Pt.locs, Pt.cells, Pt.slots] at X1432 l1432 y1432 z1432 st1432 hQ1432
     subst l1432 y1432 z1432
     obtain ⟨rfl, NQ1432, K1432⟩ := hQ1432
     have N1433 := Fr.app N1431 NQ1432
     refine Rch.st (fun _ k => st1432 _ k) ?_
     show Rch p e below T1432 (mkF m 201 #[.val (.int sp), .val (.int qc), .val (.int mc), .val (.int lb), .val (.int lq), .val (.int 1), .val (.int 0), .val (.ref a831), .val (.ref a854), .val (.ref ra_1326), .val (.ref ra_1340), .val (.ref a1351), .val (.ref ra_1394), .val (.int 2)] [(.int 1)]) _
     refine w_ifNo (pc' := 204) X1432 hx hby at_201 (XT.i0_eq_f (by decide)) rfl ?_
     refine w_aload (pc' := 206) X1432 hx hby at_204 rfl rfl rfl ?_
     refine w_iconst (pc' := 207) (v := 1) X1432 hx hby at_206 rfl rfl ?_
     refine w_iload (pc' := 209) X1432 hx hby at_207 rfl rfl ?_
     refine w_iload (pc' := 211) X1432 hx hby at_209 rfl rfl ?_
     refine w_iload (pc' := 213) X1432 hx hby at_211 rfl rfl ?_
     refine w_aload (pc' := 215) X1432 hx hby at_213 rfl rfl rfl ?_
     refine w_aload (pc' := 217) X1432 hx hby at_215 rfl rfl rfl ?_
     obtain ⟨_, _, ⟨T1434, L1434, k1434, n1434⟩, -, X1434, ⟨Lc1434, hQ1434, l1434, y1434, z1434⟩, st1434⟩ := Jvm.LawKit.callS X1432 hx (y := (⟨"com/example/alcance/alcance/IdentifiersQuotedPinLaw", "ok", "(Ljava/lang/String;IIII[C[C)Z"⟩ : MethodName)) hown1340 (mvT hZ1340 (wi hw 154 rfl)) (mvT hZ1340 (wi hw 155 rfl)) (mvT hZ1340 (wi hw 3 rfl)) (mvT hZ1340 (wi hw 156 rfl)) (by decide) (backOf (W := 0) (rm_ok_C l Z a0 hw [] G1 G3 ra_1394 t_1394 kt_1394 2 ([(.int (own_by qa)), (.int (own_by qa))]) (.int 0) 1 1 0 a831 kc831 ([(.int qa), (.int qb)]) (.int 0) a854 kc854 ([(.int na), (.int nb), (.int nc)]) (.int 0) qa 2 T1394.heap h0.size Z1426 (O2) (P5) (O4) (rG3) fq1394_0 fq1394_1 fq1394_2 f1428 f1412 f1413 (by decide) (by decide) (⟨by decide, by decide⟩) (by rfl) (ch_qa) (by decide) (by decide) (by decide) (by rfl) Old1424) hZ1340 (wi hw 156 rfl) (wi hw 3 rfl) (by decide) (by decide)) (g := (mkF m 217 #[.val (.int sp), .val (.int qc), .val (.int mc), .val (.int lb), .val (.int lq), .val (.int 1), .val (.int 0), .val (.ref a831), .val (.ref a854), .val (.ref ra_1326), .val (.ref ra_1340), .val (.ref a1351), .val (.ref ra_1394), .val (.int 2)] [(.ref a854), (.ref a831), (.int 0), (.int 1), (.int 2), (.int 1), (.ref ra_1394)])) rfl (by rw [hml]; rfl) (argsL := [(.ref ra_1394), (.int 1), (.int 2), (.int 1), (.int 0), (.ref a831), (.ref a854)]) (rest := []) (lenOf pd__Ljava_lang_String_IIII_C_C_Z rfl) rfl (by show 2 * 0 + _ ≤ _; exact Nat.le_of_eq rfl) (hb hby at_217) (fun _ _ => ⟨rfl, K1432, (by decide : 11 + 0 ≤ _), (by decide : 57 + 0 ≤ _)⟩)
     dsimp only [Pt.U, Pt.locs, Pt.cells, Pt.slots] at X1434 l1434 y1434 z1434 st1434 hQ1434
     subst l1434 y1434 z1434
     obtain ⟨rfl, NQ1434, K1434⟩ := hQ1434
     have N1435 := Fr.app N1433 NQ1434
     refine Rch.st (fun _ k => st1434 _ k) ?_
     show Rch p e below T1434 (mkF m 220 #[.val (.int sp), .val (.int qc), .val (.int mc), .val (.int lb), .val (.int lq), .val (.int 1), .val (.int 0), .val (.ref a831), .val (.ref a854), .val (.ref ra_1326), .val (.ref ra_1340), .val (.ref a1351), .val (.ref ra_1394), .val (.int 2)] [(.int 1)]) _
     refine w_ifNo (pc' := 223) X1434 hx hby at_220 (XT.i0_eq_f (by decide)) rfl ?_
     refine w_aload (pc' := 225) X1434 hx hby at_223 rfl rfl rfl ?_
     refine w_iconst (pc' := 226) (v := 2) X1434 hx hby at_225 rfl rfl ?_
     refine w_iload (pc' := 228) X1434 hx hby at_226 rfl rfl ?_
     refine w_iload (pc' := 230) X1434 hx hby at_228 rfl rfl ?_
     refine w_iload (pc' := 232) X1434 hx hby at_230 rfl rfl ?_
     refine w_aload (pc' := 234) X1434 hx hby at_232 rfl rfl rfl ?_
     refine w_aload (pc' := 236) X1434 hx hby at_234 rfl rfl rfl ?_
     obtain ⟨_, _, ⟨T1436, L1436, k1436, n1436⟩, -, X1436, ⟨Lc1436, hQ1436, l1436, y1436, z1436⟩, st1436⟩ := Jvm.LawKit.callS X1434 hx (y := (⟨"com/example/alcance/alcance/IdentifiersQuotedPinLaw", "ok", "(Ljava/lang/String;IIII[C[C)Z"⟩ : MethodName)) hown1340 (mvT hZ1340 (wi hw 154 rfl)) (mvT hZ1340 (wi hw 155 rfl)) (mvT hZ1340 (wi hw 3 rfl)) (mvT hZ1340 (wi hw 156 rfl)) (by decide) (backOf (W := 0) (rm_ok_far l Z a0 hw [] ra_1394 2 2 1 0 a831 a854 T1394.heap h0.size Z1426 (by decide)) hZ1340 (wi hw 156 rfl) (wi hw 3 rfl) (by decide) (by decide)) (g := (mkF m 236 #[.val (.int sp), .val (.int qc), .val (.int mc), .val (.int lb), .val (.int lq), .val (.int 1), .val (.int 0), .val (.ref a831), .val (.ref a854), .val (.ref ra_1326), .val (.ref ra_1340), .val (.ref a1351), .val (.ref ra_1394), .val (.int 2)] [(.ref a854), (.ref a831), (.int 0), (.int 1), (.int 2), (.int 2), (.ref ra_1394)])) rfl (by rw [hml]; rfl) (argsL := [(.ref ra_1394), (.int 2), (.int 2), (.int 1), (.int 0), (.ref a831), (.ref a854)]) (rest := []) (lenOf pd__Ljava_lang_String_IIII_C_C_Z rfl) rfl (by show 2 * 0 + _ ≤ _; exact Nat.le_of_eq rfl) (hb hby at_236) (fun _ _ => ⟨rfl, K1434, (by decide : 11 + 0 ≤ _), (by decide : 57 + 0 ≤ _)⟩)
     dsimp only [Pt.U, Pt.locs, Pt.cells, Pt.slots] at X1436 l1436 y1436 z1436 st1436 hQ1436
     subst l1436 y1436 z1436
     obtain ⟨rfl, NQ1436, K1436⟩ := hQ1436
     have N1437 := Fr.app N1435 NQ1436
     refine Rch.st (fun _ k => st1436 _ k) ?_
     show Rch p e below T1436 (mkF m 239 #[.val (.int sp), .val (.int qc), .val (.int mc), .val (.int lb), .val (.int lq), .val (.int 1), .val (.int 0), .val (.ref a831), .val (.ref a854), .val (.ref ra_1326), .val (.ref ra_1340), .val (.ref a1351), .val (.ref ra_1394), .val (.int 2)] [(.int 1)]) _
     refine w_ifNo (pc' := 242) X1436 hx hby at_239 (XT.i0_eq_f (by decide)) rfl ?_
     refine w_aload (pc' := 244) X1436 hx hby at_242 rfl rfl rfl ?_
     refine w_iconst (pc' := 245) (v := 3) X1436 hx hby at_244 rfl rfl ?_
     refine w_iload (pc' := 247) X1436 hx hby at_245 rfl rfl ?_
     refine w_iload (pc' := 249) X1436 hx hby at_247 rfl rfl ?_
     refine w_iload (pc' := 251) X1436 hx hby at_249 rfl rfl ?_
     refine w_aload (pc' := 253) X1436 hx hby at_251 rfl rfl rfl ?_
     refine w_aload (pc' := 255) X1436 hx hby at_253 rfl rfl rfl ?_
     obtain ⟨_, _, ⟨T1438, L1438, k1438, n1438⟩, -, X1438, ⟨Lc1438, hQ1438, l1438, y1438, z1438⟩, st1438⟩ := Jvm.LawKit.callS X1436 hx (y := (⟨"com/example/alcance/alcance/IdentifiersQuotedPinLaw", "ok", "(Ljava/lang/String;IIII[C[C)Z"⟩ : MethodName)) hown1340 (mvT hZ1340 (wi hw 154 rfl)) (mvT hZ1340 (wi hw 155 rfl)) (mvT hZ1340 (wi hw 3 rfl)) (mvT hZ1340 (wi hw 156 rfl)) (by decide) (backOf (W := 0) (rm_ok_far l Z a0 hw [] ra_1394 3 2 1 0 a831 a854 T1394.heap h0.size Z1426 (by decide)) hZ1340 (wi hw 156 rfl) (wi hw 3 rfl) (by decide) (by decide)) (g := (mkF m 255 #[.val (.int sp), .val (.int qc), .val (.int mc), .val (.int lb), .val (.int lq), .val (.int 1), .val (.int 0), .val (.ref a831), .val (.ref a854), .val (.ref ra_1326), .val (.ref ra_1340), .val (.ref a1351), .val (.ref ra_1394), .val (.int 2)] [(.ref a854), (.ref a831), (.int 0), (.int 1), (.int 2), (.int 3), (.ref ra_1394)])) rfl (by rw [hml]; rfl) (argsL := [(.ref ra_1394), (.int 3), (.int 2), (.int 1), (.int 0), (.ref a831), (.ref a854)]) (rest := []) (lenOf pd__Ljava_lang_String_IIII_C_C_Z rfl) rfl (by show 2 * 0 + _ ≤ _; exact Nat.le_of_eq rfl) (hb hby at_255) (fun _ _ => ⟨rfl, K1436, (by decide : 11 + 0 ≤ _), (by decide : 57 + 0 ≤ _)⟩)
     dsimp only [Pt.U, Pt.locs, Pt.cells, Pt.slots] at X1438 l1438 y1438 z1438 st1438 hQ1438
     subst l1438 y1438 z1438
     obtain ⟨rfl, NQ1438, K1438⟩ := hQ1438
     have N1439 := Fr.app N1437 NQ1438
     refine Rch.st (fun _ k => st1438 _ k) ?_
     show Rch p e below T1438 (mkF m 258 #[.val (.int sp), .val (.int qc), .val (.int mc), .val (.int lb), .val (.int lq), .val (.int 1), .val (.int 0), .val (.ref a831), .val (.ref a854), .val (.ref ra_1326), .val (.ref ra_1340), .val (.ref a1351), .val (.ref ra_1394), .val (.int 2)] [(.int 1)]) _
     refine w_ifNo (pc' := 261) X1438 hx hby at_258 (XT.i0_eq_f (by decide)) rfl ?_
     refine w_aload (pc' := 263) X1438 hx hby at_261 rfl rfl rfl ?_
     refine w_iconst (pc' := 264) (v := 4) X1438 hx hby at_263 rfl rfl ?_
     refine w_iload (pc' := 266) X1438 hx hby at_264 rfl rfl ?_
     refine w_iload (pc' := 268) X1438 hx hby at_266 rfl rfl ?_
     refine w_iload (pc' := 270) X1438 hx hby at_268 rfl rfl ?_
     refine w_aload (pc' := 272) X1438 hx hby at_270 rfl rfl rfl ?_
     refine w_aload (pc' := 274) X1438 hx hby at_272 rfl rfl rfl ?_
     obtain ⟨_, _, ⟨T1440, L1440, k1440, n1440⟩, -, X1440, ⟨Lc1440, hQ1440, l1440, y1440, z1440⟩, st1440⟩ := Jvm.LawKit.callS X1438 hx (y := (⟨"com/example/alcance/alcance/IdentifiersQuotedPinLaw", "ok", "(Ljava/lang/String;IIII[C[C)Z"⟩ : MethodName)) hown1340 (mvT hZ1340 (wi hw 154 rfl)) (mvT hZ1340 (wi hw 155 rfl)) (mvT hZ1340 (wi hw 3 rfl)) (mvT hZ1340 (wi hw 156 rfl)) (by decide) (backOf (W := 0) (rm_ok_far l Z a0 hw [] ra_1394 4 2 1 0 a831 a854 T1394.heap h0.size Z1426 (by decide)) hZ1340 (wi hw 156 rfl) (wi hw 3 rfl) (by decide) (by decide)) (g := (mkF m 274 #[.val (.int sp), .val (.int qc), .val (.int mc), .val (.int lb), .val (.int lq), .val (.int 1), .val (.int 0), .val (.ref a831), .val (.ref a854), .val (.ref ra_1326), .val (.ref ra_1340), .val (.ref a1351), .val (.ref ra_1394), .val (.int 2)] [(.ref a854), (.ref a831), (.int 0), (.int 1), (.int 2), (.int 4), (.ref ra_1394)])) rfl (by rw [hml]; rfl) (argsL := [(.ref ra_1394), (.int 4), (.int 2), (.int 1), (.int 0), (.ref a831), (.ref a854)]) (rest := []) (lenOf pd__Ljava_lang_String_IIII_C_C_Z rfl) rfl (by show 2 * 0 + _ ≤ _; exact Nat.le_of_eq rfl) (hb hby at_274) (fun _ _ => ⟨rfl, K1438, (by decide : 11 + 0 ≤ _), (by decide : 57 + 0 ≤ _)⟩)
     dsimp only [Pt.U, Pt.locs, Pt.cells, Pt.slots] at X1440 l1440 y1440 z1440 st1440 hQ1440
     subst l1440 y1440 z1440
     obtain ⟨rfl, NQ1440, K1440⟩ := hQ1440
     have N1441 := Fr.app N1439 NQ1440
     refine Rch.st (fun _ k => st1440 _ k) ?_
     show Rch p e below T1440 (mkF m 277 #[.val (.int sp), .val (.int qc), .val (.int mc), .val (.int lb), .val (.int lq), .val (.int 1), .val (.int 0), .val (.ref a831), .val (.ref a854), .val (.ref ra_1326), .val (.ref ra_1340), .val (.ref a1351), .val (.ref ra_1394), .val (.int 2)] [(.int 1)]) _
     refine w_ifNo (pc' := 280) X1440 hx hby at_277 (XT.i0_eq_f (by decide)) rfl ?_
     refine w_aload (pc' := 282) X1440 hx hby at_280 rfl rfl rfl ?_
     refine w_iconst (pc' := 283) (v := 5) X1440 hx hby at_282 rfl rfl ?_
     refine w_iload (pc' := 285) X1440 hx hby at_283 rfl rfl ?_
     refine w_iload (pc' := 287) X1440 hx hby at_285 rfl rfl ?_
     refine w_iload (pc' := 289) X1440 hx hby at_287 rfl rfl ?_
     refine w_aload (pc' := 291) X1440 hx hby at_289 rfl rfl rfl ?_
     refine w_aload (pc' := 293) X1440 hx hby at_291 rfl rfl rfl ?_
     obtain ⟨_, _, ⟨T1442, L1442, k1442, n1442⟩, -, X1442, ⟨Lc1442, hQ1442, l1442, y1442, z1442⟩, st1442⟩ := Jvm.LawKit.callS X1440 hx (y := (⟨"com/example/alcance/alcance/IdentifiersQuotedPinLaw", "ok", "(Ljava/lang/String;IIII[C[C)Z"⟩ : MethodName)) hown1340 (mvT hZ1340 (wi hw 154 rfl)) (mvT hZ1340 (wi hw 155 rfl)) (mvT hZ1340 (wi hw 3 rfl)) (mvT hZ1340 (wi hw 156 rfl)) (by decide) (backOf (W := 0) (rm_ok_far l Z a0 hw [] ra_1394 5 2 1 0 a831 a854 T1394.heap h0.size Z1426 (by decide)) hZ1340 (wi hw 156 rfl) (wi hw 3 rfl) (by decide) (by decide)) (g := (mkF m 293 #[.val (.int sp), .val (.int qc), .val (.int mc), .val (.int lb), .val (.int lq), .val (.int 1), .val (.int 0), .val (.ref a831), .val (.ref a854), .val (.ref ra_1326), .val (.ref ra_1340), .val (.ref a1351), .val (.ref ra_1394), .val (.int 2)] [(.ref a854), (.ref a831), (.int 0), (.int 1), (.int 2), (.int 5), (.ref ra_1394)])) rfl (by rw [hml]; rfl) (argsL := [(.ref ra_1394), (.int 5), (.int 2), (.int 1), (.int 0), (.ref a831), (.ref a854)]) (rest := []) (lenOf pd__Ljava_lang_String_IIII_C_C_Z rfl) rfl (by show 2 * 0 + _ ≤ _; exact Nat.le_of_eq rfl) (hb hby at_293) (fun _ _ => ⟨rfl, K1440, (by decide : 11 + 0 ≤ _), (by decide : 57 + 0 ≤ _)⟩)
     dsimp only [Pt.U, Pt.locs, Pt.cells, Pt.slots] at X1442 l1442 y1442 z1442 st1442 hQ1442
     subst l1442 y1442 z1442
     obtain ⟨rfl, NQ1442, K1442⟩ := hQ1442
     have N1443 := Fr.app N1441 NQ1442
     refine Rch.st (fun _ k => st1442 _ k) ?_
     show Rch p e below T1442 (mkF m 296 #[.val (.int sp), .val (.int qc), .val (.int mc), .val (.int lb), .val (.int lq), .val (.int 1), .val (.int 0), .val (.ref a831), .val (.ref a854), .val (.ref ra_1326), .val (.ref ra_1340), .val (.ref a1351), .val (.ref ra_1394), .val (.int 2)] [(.int 1)]) _
     refine w_ifNo (pc' := 299) X1442 hx hby at_296 (XT.i0_eq_f (by decide)) rfl ?_
     refine w_aload (pc' := 301) X1442 hx hby at_299 rfl rfl rfl ?_
     refine w_bipush (pc' := 303) (v := 6) X1442 hx hby at_301 rfl rfl ?_
     refine w_iload (pc' := 305) X1442 hx hby at_303 rfl rfl ?_
     refine w_iload (pc' := 307) X1442 hx hby at_305 rfl rfl ?_
     refine w_iload (pc' := 309) X1442 hx hby at_307 rfl rfl ?_
     refine w_aload (pc' := 311) X1442 hx hby at_309 rfl rfl rfl ?_
     refine w_aload (pc' := 313) X1442 hx hby at_311 rfl rfl rfl ?_
     obtain ⟨_, _, ⟨T1444, L1444, k1444, n1444⟩, -, X1444, ⟨Lc1444, hQ1444, l1444, y1444, z1444⟩, st1444⟩ := Jvm.LawKit.callS X1442 hx (y := (⟨"com/example/alcance/alcance/IdentifiersQuotedPinLaw", "ok", "(Ljava/lang/String;IIII[C[C)Z"⟩ : MethodName)) hown1340 (mvT hZ1340 (wi hw 154 rfl)) (mvT hZ1340 (wi hw 155 rfl)) (mvT hZ1340 (wi hw 3 rfl)) (mvT hZ1340 (wi hw 156 rfl)) (by decide) (backOf (W := 0) (rm_ok_far l Z a0 hw [] ra_1394 6 2 1 0 a831 a854 T1394.heap h0.size Z1426 (by decide)) hZ1340 (wi hw 156 rfl) (wi hw 3 rfl) (by decide) (by decide)) (g := (mkF m 313 #[.val (.int sp), .val (.int qc), .val (.int mc), .val (.int lb), .val (.int lq), .val (.int 1), .val (.int 0), .val (.ref a831), .val (.ref a854), .val (.ref ra_1326), .val (.ref ra_1340), .val (.ref a1351), .val (.ref ra_1394), .val (.int 2)] [(.ref a854), (.ref a831), (.int 0), (.int 1), (.int 2), (.int 6), (.ref ra_1394)])) rfl (by rw [hml]; rfl) (argsL := [(.ref ra_1394), (.int 6), (.int 2), (.int 1), (.int 0), (.ref a831), (.ref a854)]) (rest := []) (lenOf pd__Ljava_lang_String_IIII_C_C_Z rfl) rfl (by show 2 * 0 + _ ≤ _; exact Nat.le_of_eq rfl) (hb hby at_313) (fun _ _ => ⟨rfl, K1442, (by decide : 11 + 0 ≤ _), (by decide : 57 + 0 ≤ _)⟩)
     dsimp only [Pt.U, Pt.locs, Pt.cells, Pt.slots] at X1444 l1444 y1444 z1444 st1444 hQ1444
     subst l1444 y1444 z1444
     obtain ⟨rfl, NQ1444, K1444⟩ := hQ1444
     have N1445 := Fr.app N1443 NQ1444
     refine Rch.st (fun _ k => st1444 _ k) ?_
     show Rch p e below T1444 (mkF m 316 #[.val (.int sp), .val (.int qc), .val (.int mc), .val (.int lb), .val (.int lq), .val (.int 1), .val (.int 0), .val (.ref a831), .val (.ref a854), .val (.ref ra_1326), .val (.ref ra_1340), .val (.ref a1351), .val (.ref ra_1394), .val (.int 2)] [(.int 1)]) _
     refine w_ifNo (pc' := 319) X1444 hx hby at_316 (XT.i0_eq_f (by decide)) rfl ?_
     refine w_iconst (pc' := 320) (v := 1) X1444 hx hby at_319 rfl rfl ?_
     refine w_goto (pc' := 324) X1444 hx hby at_320 (by decide) ?_
     exact Rch.retVW X1444 hx hS1340 (by rw [K1444]; exact hk1427) Bd.returns rfl (Or.inl ⟨rfl, by simp, _, rfl⟩) (hb hby at_324) (by rw [K1444]; exact ⟨rfl, (own_Fr Z0 N1445), Kp1425, own_ib_mono (own_ib (s := s.setVm T1340.vm) IQ1340 X1444.warmed) (by decide)⟩) (by decide) (by decide)
    ·skip
     show Rch p e below T1326 (mkF m 129 #[.val (.int sp), .val (.int qc), .val (.int mc), .val (.int lb), .val (.int lq), .val (.int 1), .val (.int 1), .val (.ref a831), .val (.ref a854), .val (.ref ra_1326), .unset, .unset, .unset, .unset] [(.int 0), (.ref a854), (.ref a831), (.int 1)]) _
     obtain ⟨_, _, ⟨T1446, L1446, k1446, n1446⟩, -, X1446, ⟨Lc1446, hQ1446, l1446, y1446, z1446⟩, st1446⟩ := Jvm.LawKit.callS X1326 hx (y := (⟨"com/example/alcance/alcance/IdentifiersQuotedPinLaw", "make", "(I[C[CZ)Ljava/lang/String;"⟩ : MethodName)) hown (mvT hZ (wi hw 1 rfl)) (mvT hZ (wi hw 2 rfl)) (mvT hZ (wi hw 3 rfl)) (mvT hZ (wi hw 4 rfl)) (by decide) (backOf (W := 0) (rm_mk_0_1 l Z a0 hw [] G1 a831 a854 kc854 na nb nc T1326.heap h0.size Z1338 (O2) (P5) f1335 (ch_na) Old1336) hZ (wi hw 4 rfl) (wi hw 3 rfl) (by decide) (by decide)) (g := (mkF m 129 #[.val (.int sp), .val (.int qc), .val (.int mc), .val (.int lb), .val (.int lq), .val (.int 1), .val (.int 1), .val (.ref a831), .val (.ref a854), .val (.ref ra_1326), .unset, .unset, .unset, .unset] [(.int 0), (.ref a854), (.ref a831), (.int 1)])) rfl (by rw [hml]; rfl) (argsL := [(.int 1), (.ref a831), (.ref a854), (.int 0)]) (rest := []) (lenOf pd__I_C_CZ_Ljava_lang_String_ rfl) rfl (by show 2 * 0 + _ ≤ _; exact Nat.le_of_eq rfl) (hb hby at_129) (fun _ _ => ⟨rfl, (rfl : T1326.heap = T1326.heap), (by decide : 4 + 2 ≤ _), (by decide : 10 + 5 ≤ _)⟩)
     dsimp only [Pt.U, Pt.locs, Pt.cells, Pt.slots] at X1446 l1446 y1446 z1446 st1446 hQ1446
     subst l1446 y1446 z1446
     obtain ⟨ra_1446, t_1446, kt_1446, rfl, NQ1446, K1446, pq1446_0, pq1446_1, fq1446_0, fq1446_1, fq1446_2, fq1446_3⟩ := hQ1446
     have N1447 := Fr.app N1327 NQ1446
     have f1458 := f1334.keep K1446 nin0
     have f1459 := f1335.keep K1446 nin0
     have f1460 := fq1326_0.keep K1446
     have f1461 := fq1326_1.keep K1446 nin0
     have f1462 := fq1326_2.keep K1446 nin0
     have f1463 := fq1326_3.keep K1446 nin0
     have Old1464 := Old1336.keep K1446 all0
     have Kp1465 : Keep h0 T1446.heap [] := Kp1337.trans K1446 all0
     have Z1466 := Nat.le_trans Z1338 K1446.1
     have hk1467 := Nat.le_trans hk1339 K1446.1
     refine Rch.st (fun _ k => st1446 _ k) ?_
     show Rch p e below T1446 (mkF m 132 #[.val (.int sp), .val (.int qc), .val (.int mc), .val (.int lb), .val (.int lq), .val (.int 1), .val (.int 1), .val (.ref a831), .val (.ref a854), .val (.ref ra_1326), .unset, .unset, .unset, .unset] [(.ref ra_1446)]) _
     refine w_astore (pc' := 134) (l' := #[.val (.int sp), .val (.int qc), .val (.int mc), .val (.int lb), .val (.int lq), .val (.int 1), .val (.int 1), .val (.ref a831), .val (.ref a854), .val (.ref ra_1326), .val (.ref ra_1446), .unset, .unset, .unset]) X1446 hx hby at_132 rfl rfl rfl ?_
     obtain ⟨T1468, h1468, X1468, e1468, E1468, A1468, D1468, -, st1468⟩ := newO X1446 hx hZ hown (wi hw 13 rfl) (wi hw 14 rfl) (wi hw 15 rfl) (rfl : T1446.heap = T1446.heap) (g := (mkF m 134 #[.val (.int sp), .val (.int qc), .val (.int mc), .val (.int lb), .val (.int lq), .val (.int 1), .val (.int 1), .val (.ref a831), .val (.ref a854), .val (.ref ra_1326), .val (.ref ra_1446), .unset, .unset, .unset] [])) rfl (hb hby at_134) (by decide) (by decide)
     obtain ⟨a1468, g1468⟩ : ∃ z, z = T1446.heap.size := ⟨_, rfl⟩
     rw [← g1468] at A1468 D1468 st1468
     have ne1469 : a831 ≠ a1468 := by rw [g1468]; exact Nat.ne_of_lt f1458.lt
     have ne1470 : a854 ≠ a1468 := by rw [g1468]; exact Nat.ne_of_lt f1459.lt
     have ne1471 : ra_1326 ≠ a1468 := by rw [g1468]; exact Nat.ne_of_lt f1460.lt
     have ne1472 : ra_1446 ≠ a1468 := by rw [g1468]; exact Nat.ne_of_lt fq1446_0.lt
     have ne1473 : t_1326 ≠ a1468 := by rw [g1468]; exact Nat.ne_of_lt f1463.lt
     have ne1474 : t_1446 ≠ a1468 := by rw [g1468]; exact Nat.ne_of_lt fq1446_3.lt
     have ge1475 : h0.size ≤ a1468 := Nat.le_trans Z1466 (Nat.le_of_eq g1468.symm)
     have hk1477 := Nat.le_trans hk1467 E1468.1
     have f1478 := f1458.ext E1468
     have f1479 := f1459.ext E1468
     have f1480 := f1460.ext E1468
     have f1481 := f1461.ext E1468
     have f1482 := f1462.ext E1468
     have f1483 := f1463.ext E1468
     have f1484 := fq1446_0.ext E1468
     have f1485 := fq1446_1.ext E1468
     have f1486 := fq1446_2.ext E1468
     have f1487 := fq1446_3.ext E1468
     have Old1488 := Old1464.ext E1468
     have Z1489 := Nat.le_trans Z1466 E1468.1
     have Kp1490 : Keep h0 h1468 [] := Kp1465.ext E1468
     have f1491 : Fld Z h1468 a1468 "com/example/alcance/alcance/Identifiers" "lowersBare" "Z" (.int (0 : Int32)) := D1468 (Or.inr (wi hw 28 rfl)) (ty := .boolean) (by decide)
     have f1492 : Fld Z h1468 a1468 "com/example/alcance/alcance/Identifiers" "lowersQuoted" "Z" (.int (0 : Int32)) := D1468 (Or.inr (wi hw 30 rfl)) (ty := .boolean) (by decide)
     have f1493 : Fld Z h1468 a1468 "com/example/alcance/alcance/Identifiers" "quote" "Ljava/lang/String;" .null := D1468 (Or.inr (wi hw 32 rfl)) (ty := (.object "java/lang/String")) (by decide)
     refine Rch.st (fun _ k => st1468 _ k) ?_
     show Rch p e below T1468 (mkF m 137 #[.val (.int sp), .val (.int qc), .val (.int mc), .val (.int lb), .val (.int lq), .val (.int 1), .val (.int 1), .val (.ref a831), .val (.ref a854), .val (.ref ra_1326), .val (.ref ra_1446), .unset, .unset, .unset] [(.ref a1468)]) _
     refine w_dup (pc' := 138) X1468 hx hby at_137 rfl rfl ?_
     refine w_iloadN (pc' := 139) X1468 hx hby at_138 rfl rfl ?_
     refine w_iload (pc' := 141) X1468 hx hby at_139 rfl rfl ?_
     refine w_aload (pc' := 143) X1468 hx hby at_141 rfl rfl rfl ?_
     obtain ⟨_, _, ⟨T1494, L1494, k1494, n1494⟩, -, X1494, ⟨Lc1494, hQ1494, l1494, y1494, z1494⟩, st1494⟩ := X1468.specialBack hx (y := (⟨"com/example/alcance/alcance/Identifiers", "<init>", "(ZZLjava/lang/String;)V"⟩ : MethodName)) rfl hown (mvT hZ (wi hw 16 rfl)) (mvT hZ (wi hw 17 rfl)) (mvT hZ (wi hw 18 rfl)) (by decide) (backOf (W := 1) (rm_id l Z a0 hw [] a1468 lb lq ra_1326 h1468 h0.size Z1489 A1468 f1491 f1492 f1493 (ge1475) (hlb) (hlq)) hZ (wi hw 18 rfl) (wi hw 15 rfl) (by decide) (by decide)) (g := (mkF m 143 #[.val (.int sp), .val (.int qc), .val (.int mc), .val (.int lb), .val (.int lq), .val (.int 1), .val (.int 1), .val (.ref a831), .val (.ref a854), .val (.ref ra_1326), .val (.ref ra_1446), .unset, .unset, .unset] [(.ref ra_1326), (.int lq), (.int lb), (.ref a1468), (.ref a1468)])) rfl (by rw [hml]; rfl) (Steps.refl _) (a := a1468) (argsL := [(.int lb), (.int lq), (.ref ra_1326)]) (rest := [(.ref a1468)]) (lenOf pd__ZZLjava_lang_String__V rfl) rfl (by show 2 * 0 + _ ≤ _; exact Nat.le_of_eq rfl) (hb hby at_143) (fun _ _ => ⟨rfl, e1468, (by decide : 7 + 0 ≤ _), (by decide : 18 + 0 ≤ _)⟩)
     dsimp only [Pt.U, Pt.locs, Pt.cells, Pt.slots] at X1494 l1494 y1494 z1494 st1494 hQ1494
     subst l1494 y1494 z1494
     obtain ⟨rfl, NQ1494, K1494, fq1494_0⟩ := hQ1494
     have N1495 := Fr.app N1447 NQ1494
     have f1496 := f1478.keep K1494 (ninS ne1469 nin0)
     have f1497 := f1479.keep K1494 (ninS ne1470 nin0)
     have f1498 := f1480.keep K1494
     have f1499 := f1481.keep K1494 (ninS ne1471 nin0)
     have f1500 := f1482.keep K1494 (ninS ne1471 nin0)
     have f1501 := f1483.keep K1494 (ninS ne1473 nin0)
     have f1502 := f1484.keep K1494
     have f1503 := f1485.keep K1494 (ninS ne1472 nin0)
     have f1504 := f1486.keep K1494 (ninS ne1472 nin0)
     have f1505 := f1487.keep K1494 (ninS ne1474 nin0)
     have f1506 := A1468.keep K1494
     have Old1507 := Old1488.keep K1494 (allS ge1475 all0)
     have Kp1508 : Keep h0 T1494.heap [] := Kp1490.trans K1494 (allS (Or.inr (Nat.le_trans Kp1465.1 (Nat.le_of_eq g1468.symm))) all0)
     have Z1509 := Nat.le_trans Z1489 K1494.1
     have hk1510 := Nat.le_trans hk1477 K1494.1
     refine Rch.st (fun _ k => st1494.trans k) ?_
     show Rch p e below T1494 (mkF m 146 #[.val (.int sp), .val (.int qc), .val (.int mc), .val (.int lb), .val (.int lq), .val (.int 1), .val (.int 1), .val (.ref a831), .val (.ref a854), .val (.ref ra_1326), .val (.ref ra_1446), .unset, .unset, .unset] [(.ref a1468)]) _
     refine w_astore (pc' := 148) (l' := #[.val (.int sp), .val (.int qc), .val (.int mc), .val (.int lb), .val (.int lq), .val (.int 1), .val (.int 1), .val (.ref a831), .val (.ref a854), .val (.ref ra_1326), .val (.ref ra_1446), .val (.ref a1468), .unset, .unset]) X1494 hx hby at_146 rfl rfl rfl ?_
     refine w_aload (pc' := 150) X1494 hx hby at_148 rfl rfl rfl ?_
     refine w_aload (pc' := 152) X1494 hx hby at_150 rfl rfl rfl ?_
     obtain ⟨cq1511, kq1511, q1511a, q1511b, q1511c⟩ := isOf hZ (rfl : T1494.heap = T1494.heap) f1506
     obtain ⟨_, _, ⟨T1511, L1511, k1511, n1511⟩, -, X1511, ⟨Lc1511, hQ1511, l1511, y1511, z1511⟩, st1511⟩ := X1494.virtualBack hx (y := (⟨"com/example/alcance/alcance/Identifiers", "quoted", "(Ljava/lang/String;)Ljava/lang/String;"⟩ : MethodName)) (z := (⟨"com/example/alcance/alcance/Identifiers", "quoted", "(Ljava/lang/String;)Ljava/lang/String;"⟩ : MethodName)) hown (mvT hZ (wi hw 33 rfl)) (mvT hZ (wi hw 34 rfl)) (notFace_of_selects (args := #[]) (mvT hZ (wi hw 36 rfl))) (mvT hZ (wi hw 36 rfl)) (mvT hZ (wi hw 35 rfl)) (by decide) (backOf (W := 0) (rm_qu l Z a0 hw [] G1 a1468 ra_1326 t_1326 kt_1326 1 ([(.int (own_by qa))]) (.int 0) ra_1446 t_1446 kt_1446 1 ([(.int (own_by na))]) (.int 0) T1494.heap h0.size Z1509 (O2) (P5) fq1494_0 f1498 f1499 f1500 f1501 f1502 f1503 f1504 f1505 (by decide) (by decide) (by decide) (by decide) (by decide) (by decide) (by decide) (by decide) (by decide) (by decide) (by decide) (by decide) (by decide) (by decide) Old1507) hZ (wi hw 37 rfl) (wi hw 15 rfl) (by decide) (by decide)) q1511a q1511c (g := (mkF m 152 #[.val (.int sp), .val (.int qc), .val (.int mc), .val (.int lb), .val (.int lq), .val (.int 1), .val (.int 1), .val (.ref a831), .val (.ref a854), .val (.ref ra_1326), .val (.ref ra_1446), .val (.ref a1468), .unset, .unset] [(.ref ra_1446), (.ref a1468)])) rfl (by rw [hml]; rfl) (Steps.refl _) (argsL := [(.ref ra_1446)]) (rest := []) (lenOf pd__Ljava_lang_String__Ljava_lang_String_ rfl) rfl (by show 2 * 0 + _ ≤ _; exact Nat.le_of_eq rfl) (hb hby at_152) (fun _ _ => ⟨rfl, (rfl : T1494.heap = T1494.heap), (by decide : 7 + 4 ≤ _), (by decide : 18 + 40 ≤ _)⟩)
     dsimp only [Pt.U, Pt.locs, Pt.cells, Pt.slots] at X1511 l1511 y1511 z1511 st1511 hQ1511
     subst l1511 y1511 z1511
     obtain ⟨ra_1511, t_1511, kt_1511, rfl, NQ1511, K1511, pq1511_0, pq1511_1, fq1511_0, fq1511_1, fq1511_2, fq1511_3⟩ := hQ1511
     have N1512 := Fr.app N1495 NQ1511
     have f1529 := f1496.keep K1511 nin0
     have f1530 := f1497.keep K1511 nin0
     have Old1541 := Old1507.keep K1511 all0
     have Kp1542 : Keep h0 T1511.heap [] := Kp1508.trans K1511 all0
     have Z1543 := Nat.le_trans Z1509 K1511.1
     have hk1544 := Nat.le_trans hk1510 K1511.1
     refine Rch.st (fun _ k => st1511.trans k) ?_
     show Rch p e below T1511 (mkF m 155 #[.val (.int sp), .val (.int qc), .val (.int mc), .val (.int lb), .val (.int lq), .val (.int 1), .val (.int 1), .val (.ref a831), .val (.ref a854), .val (.ref ra_1326), .val (.ref ra_1446), .val (.ref a1468), .unset, .unset] [(.ref ra_1511)]) _
     have f1545 : Arv Z T1511.heap t_1511 kt_1511 .byte (3 : Int32) [(.int (own_by qa)), (.int (own_by na)), (.int (own_by qa))] (.int (0 : Int32)) := by have z := fq1511_3; rw [show ((((0 : Int32) + (1 : Int32)) + (1 : Int32)) + (1 : Int32)) = (3 : Int32) from by decide, own_cat, own_t1] at z; exact z
     refine w_astore (pc' := 157) (l' := #[.val (.int sp), .val (.int qc), .val (.int mc), .val (.int lb), .val (.int lq), .val (.int 1), .val (.int 1), .val (.ref a831), .val (.ref a854), .val (.ref ra_1326), .val (.ref ra_1446), .val (.ref a1468), .val (.ref ra_1511), .unset]) X1511 hx hby at_155 rfl rfl rfl ?_
     refine w_aload (pc' := 159) X1511 hx hby at_157 rfl rfl rfl ?_
     refine w_nonnullYes (pc' := 164) X1511 hx hby at_159 rfl (fun q => nomatch q) (by decide) ?_
     refine w_iconst (pc' := 165) (v := 2) X1511 hx hby at_164 rfl rfl ?_
     refine w_iload (pc' := 167) X1511 hx hby at_165 rfl rfl ?_
     refine w_imul (pc' := 168) X1511 hx hby at_167 rfl ?_
     refine w_iload (pc' := 170) X1511 hx hby at_168 rfl rfl ?_
     refine w_iadd (pc' := 171) X1511 hx hby at_170 rfl ?_
     have r1546 : (((2 : Int32) * (1 : Int32)) + (1 : Int32)) = (3 : Int32) := by decide
     rw [r1546]
     show Rch p e below T1511 (mkF m 171 #[.val (.int sp), .val (.int qc), .val (.int mc), .val (.int lb), .val (.int lq), .val (.int 1), .val (.int 1), .val (.ref a831), .val (.ref a854), .val (.ref ra_1326), .val (.ref ra_1446), .val (.ref a1468), .val (.ref ra_1511), .unset] [(.int 3)]) _
     refine w_istore (pc' := 173) (l' := #[.val (.int sp), .val (.int qc), .val (.int mc), .val (.int lb), .val (.int lq), .val (.int 1), .val (.int 1), .val (.ref a831), .val (.ref a854), .val (.ref ra_1326), .val (.ref ra_1446), .val (.ref a1468), .val (.ref ra_1511), .val (.int 3)]) X1511 hx hby at_171 rfl rfl ?_
     refine w_aload (pc' := 175) X1511 hx hby at_173 rfl rfl rfl ?_
     obtain ⟨cq1547, kq1547, q1547a, q1547b, q1547c⟩ := isOf hZ (rfl : T1511.heap = T1511.heap) fq1511_0
     obtain ⟨_, _, ⟨T1547, L1547, k1547, n1547⟩, -, X1547, ⟨Lc1547, hQ1547, l1547, y1547, z1547⟩, st1547⟩ := X1511.virtualBack hx (y := (⟨"java/lang/String", "length", "()I"⟩ : MethodName)) (z := (⟨"java/lang/String", "length", "()I"⟩ : MethodName)) hown (mvT hZ (wi hw 153 rfl)) (mvT hZ (wi hw 67 rfl)) (notFace_of_selects (args := #[]) (mvT hZ (wi hw 69 rfl))) (mvT hZ (wi hw 69 rfl)) (mvT hZ (wi hw 68 rfl)) (by decide) (backOf (W := 0) (rm_length l Z a0 hw [] G1 ra_1511 0 t_1511 kt_1511 3 ([(.int (own_by qa)), (.int (own_by na)), (.int (own_by qa))]) (.int 0) T1511.heap h0.size Z1543 (O2) (P5) fq1511_1 (Or.inl rfl) fq1511_2 f1545 fq1511_0 Old1541) hZ (wi hw 70 rfl) (wi hw 6 rfl) (by decide) (by decide)) q1547a q1547c (g := (mkF m 175 #[.val (.int sp), .val (.int qc), .val (.int mc), .val (.int lb), .val (.int lq), .val (.int 1), .val (.int 1), .val (.ref a831), .val (.ref a854), .val (.ref ra_1326), .val (.ref ra_1446), .val (.ref a1468), .val (.ref ra_1511), .val (.int 3)] [(.ref ra_1511)])) rfl (by rw [hml]; rfl) (Steps.refl _) (argsL := []) (rest := []) (lenOf pd___I rfl) rfl (by show 2 * 0 + _ ≤ _; exact Nat.le_of_eq rfl) (hb hby at_175) (fun _ _ => ⟨rfl, (rfl : T1511.heap = T1511.heap), (by decide : 11 + 0 ≤ _), (by decide : 58 + 0 ≤ _)⟩)
     dsimp only [Pt.U, Pt.locs, Pt.cells, Pt.slots] at X1547 l1547 y1547 z1547 st1547 hQ1547
     subst l1547 y1547 z1547
     obtain ⟨rfl, NQ1547, K1547⟩ := hQ1547
     have N1548 := Fr.app N1512 NQ1547
     refine Rch.st (fun _ k => st1547.trans k) ?_
     show Rch p e below T1547 (mkF m 178 #[.val (.int sp), .val (.int qc), .val (.int mc), .val (.int lb), .val (.int lq), .val (.int 1), .val (.int 1), .val (.ref a831), .val (.ref a854), .val (.ref ra_1326), .val (.ref ra_1446), .val (.ref a1468), .val (.ref ra_1511), .val (.int 3)] [(.int ((3 : Int32) >>> ((0 : Int32) &&& 31)))]) _
     refine w_iload (pc' := 180) X1547 hx hby at_178 rfl rfl ?_
     refine w_icmpYes (pc' := 185) X1547 hx hby at_180 (XT.ii_eq_t (by decide)) (by decide) ?_
     refine w_aload (pc' := 187) X1547 hx hby at_185 rfl rfl rfl ?_
     refine w_iconst (pc' := 188) (v := 0) X1547 hx hby at_187 rfl rfl ?_
     refine w_iload (pc' := 190) X1547 hx hby at_188 rfl rfl ?_
     refine w_iload (pc' := 192) X1547 hx hby at_190 rfl rfl ?_
     refine w_iload (pc' := 194) X1547 hx hby at_192 rfl rfl ?_
     refine w_aload (pc' := 196) X1547 hx hby at_194 rfl rfl rfl ?_
     refine w_aload (pc' := 198) X1547 hx hby at_196 rfl rfl rfl ?_
     obtain ⟨_, _, ⟨T1549, L1549, k1549, n1549⟩, -, X1549, ⟨Lc1549, hQ1549, l1549, y1549, z1549⟩, st1549⟩ := Jvm.LawKit.callS X1547 hx (y := (⟨"com/example/alcance/alcance/IdentifiersQuotedPinLaw", "ok", "(Ljava/lang/String;IIII[C[C)Z"⟩ : MethodName)) hown (mvT hZ (wi hw 154 rfl)) (mvT hZ (wi hw 155 rfl)) (mvT hZ (wi hw 3 rfl)) (mvT hZ (wi hw 156 rfl)) (by decide) (backOf (W := 0) (rm_ok_A l Z a0 hw [] G1 G3 ra_1511 t_1511 kt_1511 3 ([(.int (own_by qa)), (.int (own_by na)), (.int (own_by qa))]) (.int 0) 0 1 1 a831 kc831 ([(.int qa), (.int qb)]) (.int 0) a854 kc854 ([(.int na), (.int nb), (.int nc)]) (.int 0) qa 3 T1511.heap h0.size Z1543 (O2) (P5) (O4) (rG3) fq1511_0 fq1511_1 fq1511_2 f1545 f1529 f1530 (by decide) (⟨by decide, by decide⟩) (by rfl) (ch_qa) (by decide) (by decide) (by decide) (by rfl) Old1541) hZ (wi hw 156 rfl) (wi hw 3 rfl) (by decide) (by decide)) (g := (mkF m 198 #[.val (.int sp), .val (.int qc), .val (.int mc), .val (.int lb), .val (.int lq), .val (.int 1), .val (.int 1), .val (.ref a831), .val (.ref a854), .val (.ref ra_1326), .val (.ref ra_1446), .val (.ref a1468), .val (.ref ra_1511), .val (.int 3)] [(.ref a854), (.ref a831), (.int 1), (.int 1), (.int 3), (.int 0), (.ref ra_1511)])) rfl (by rw [hml]; rfl) (argsL := [(.ref ra_1511), (.int 0), (.int 3), (.int 1), (.int 1), (.ref a831), (.ref a854)]) (rest := []) (lenOf pd__Ljava_lang_String_IIII_C_C_Z rfl) rfl (by show 2 * 0 + _ ≤ _; exact Nat.le_of_eq rfl) (hb hby at_198) (fun _ _ => ⟨rfl, K1547, (by decide : 11 + 0 ≤ _), (by decide : 58 + 0 ≤ _)⟩)
     dsimp only [Pt.U, Pt.locs, Pt.cells, Pt.slots] at X1549 l1549 y1549 z1549 st1549 hQ1549
     subst l1549 y1549 z1549
     obtain ⟨rfl, NQ1549, K1549⟩ := hQ1549
     have N1550 := Fr.app N1548 NQ1549
     refine Rch.st (fun _ k => st1549 _ k) ?_
     show Rch p e below T1549 (mkF m 201 #[.val (.int sp), .val (.int qc), .val (.int mc), .val (.int lb), .val (.int lq), .val (.int 1), .val (.int 1), .val (.ref a831), .val (.ref a854), .val (.ref ra_1326), .val (.ref ra_1446), .val (.ref a1468), .val (.ref ra_1511), .val (.int 3)] [(.int 1)]) _
     refine w_ifNo (pc' := 204) X1549 hx hby at_201 (XT.i0_eq_f (by decide)) rfl ?_
     refine w_aload (pc' := 206) X1549 hx hby at_204 rfl rfl rfl ?_
     refine w_iconst (pc' := 207) (v := 1) X1549 hx hby at_206 rfl rfl ?_
     refine w_iload (pc' := 209) X1549 hx hby at_207 rfl rfl ?_
     refine w_iload (pc' := 211) X1549 hx hby at_209 rfl rfl ?_
     refine w_iload (pc' := 213) X1549 hx hby at_211 rfl rfl ?_
     refine w_aload (pc' := 215) X1549 hx hby at_213 rfl rfl rfl ?_
     refine w_aload (pc' := 217) X1549 hx hby at_215 rfl rfl rfl ?_
     obtain ⟨_, _, ⟨T1551, L1551, k1551, n1551⟩, -, X1551, ⟨Lc1551, hQ1551, l1551, y1551, z1551⟩, st1551⟩ := Jvm.LawKit.callS X1549 hx (y := (⟨"com/example/alcance/alcance/IdentifiersQuotedPinLaw", "ok", "(Ljava/lang/String;IIII[C[C)Z"⟩ : MethodName)) hown (mvT hZ (wi hw 154 rfl)) (mvT hZ (wi hw 155 rfl)) (mvT hZ (wi hw 3 rfl)) (mvT hZ (wi hw 156 rfl)) (by decide) (backOf (W := 0) (rm_ok_B l Z a0 hw [] G1 G3 ra_1511 t_1511 kt_1511 3 ([(.int (own_by qa)), (.int (own_by na)), (.int (own_by qa))]) (.int 0) 1 1 1 a831 kc831 ([(.int qa), (.int qb)]) (.int 0) a854 kc854 ([(.int na), (.int nb), (.int nc)]) (.int 0) na 3 T1511.heap h0.size Z1543 (O2) (P5) (O4) (rG3) fq1511_0 fq1511_1 fq1511_2 f1545 f1529 f1530 (by decide) (by decide) (⟨by decide, by decide⟩) (by rfl) (ch_na) (by decide) (by decide) (by decide) (by rfl) Old1541) hZ (wi hw 156 rfl) (wi hw 3 rfl) (by decide) (by decide)) (g := (mkF m 217 #[.val (.int sp), .val (.int qc), .val (.int mc), .val (.int lb), .val (.int lq), .val (.int 1), .val (.int 1), .val (.ref a831), .val (.ref a854), .val (.ref ra_1326), .val (.ref ra_1446), .val (.ref a1468), .val (.ref ra_1511), .val (.int 3)] [(.ref a854), (.ref a831), (.int 1), (.int 1), (.int 3), (.int 1), (.ref ra_1511)])) rfl (by rw [hml]; rfl) (argsL := [(.ref ra_1511), (.int 1), (.int 3), (.int 1), (.int 1), (.ref a831), (.ref a854)]) (rest := []) (lenOf pd__Ljava_lang_String_IIII_C_C_Z rfl) rfl (by show 2 * 0 + _ ≤ _; exact Nat.le_of_eq rfl) (hb hby at_217) (fun _ _ => ⟨rfl, K1549, (by decide : 11 + 0 ≤ _), (by decide : 58 + 0 ≤ _)⟩)
     dsimp only [Pt.U, Pt.locs, Pt.cells, Pt.slots] at X1551 l1551 y1551 z1551 st1551 hQ1551
     subst l1551 y1551 z1551
     obtain ⟨rfl, NQ1551, K1551⟩ := hQ1551
     have N1552 := Fr.app N1550 NQ1551
     refine Rch.st (fun _ k => st1551 _ k) ?_
     show Rch p e below T1551 (mkF m 220 #[.val (.int sp), .val (.int qc), .val (.int mc), .val (.int lb), .val (.int lq), .val (.int 1), .val (.int 1), .val (.ref a831), .val (.ref a854), .val (.ref ra_1326), .val (.ref ra_1446), .val (.ref a1468), .val (.ref ra_1511), .val (.int 3)] [(.int 1)]) _
     refine w_ifNo (pc' := 223) X1551 hx hby at_220 (XT.i0_eq_f (by decide)) rfl ?_
     refine w_aload (pc' := 225) X1551 hx hby at_223 rfl rfl rfl ?_
     refine w_iconst (pc' := 226) (v := 2) X1551 hx hby at_225 rfl rfl ?_
     refine w_iload (pc' := 228) X1551 hx hby at_226 rfl rfl ?_
     refine w_iload (pc' := 230) X1551 hx hby at_228 rfl rfl ?_
     refine w_iload (pc' := 232) X1551 hx hby at_230 rfl rfl ?_
     refine w_aload (pc' := 234) X1551 hx hby at_232 rfl rfl rfl ?_
     refine w_aload (pc' := 236) X1551 hx hby at_234 rfl rfl rfl ?_
     obtain ⟨_, _, ⟨T1553, L1553, k1553, n1553⟩, -, X1553, ⟨Lc1553, hQ1553, l1553, y1553, z1553⟩, st1553⟩ := Jvm.LawKit.callS X1551 hx (y := (⟨"com/example/alcance/alcance/IdentifiersQuotedPinLaw", "ok", "(Ljava/lang/String;IIII[C[C)Z"⟩ : MethodName)) hown (mvT hZ (wi hw 154 rfl)) (mvT hZ (wi hw 155 rfl)) (mvT hZ (wi hw 3 rfl)) (mvT hZ (wi hw 156 rfl)) (by decide) (backOf (W := 0) (rm_ok_C l Z a0 hw [] G1 G3 ra_1511 t_1511 kt_1511 3 ([(.int (own_by qa)), (.int (own_by na)), (.int (own_by qa))]) (.int 0) 2 1 1 a831 kc831 ([(.int qa), (.int qb)]) (.int 0) a854 kc854 ([(.int na), (.int nb), (.int nc)]) (.int 0) qa 3 T1511.heap h0.size Z1543 (O2) (P5) (O4) (rG3) fq1511_0 fq1511_1 fq1511_2 f1545 f1529 f1530 (by decide) (by decide) (⟨by decide, by decide⟩) (by rfl) (ch_qa) (by decide) (by decide) (by decide) (by rfl) Old1541) hZ (wi hw 156 rfl) (wi hw 3 rfl) (by decide) (by decide)) (g := (mkF m 236 #[.val (.int sp), .val (.int qc), .val (.int mc), .val (.int lb), .val (.int lq), .val (.int 1), .val (.int 1), .val (.ref a831), .val (.ref a854), .val (.ref ra_1326), .val (.ref ra_1446), .val (.ref a1468), .val (.ref ra_1511), .val (.int 3)] [(.ref a854), (.ref a831), (.int 1), (.int 1), (.int 3), (.int 2), (.ref ra_1511)])) rfl (by rw [hml]; rfl) (argsL := [(.ref ra_1511), (.int 2), (.int 3), (.int 1), (.int 1), (.ref a831), (.ref a854)]) (rest := []) (lenOf pd__Ljava_lang_String_IIII_C_C_Z rfl) rfl (by show 2 * 0 + _ ≤ _; exact Nat.le_of_eq rfl) (hb hby at_236) (fun _ _ => ⟨rfl, K1551, (by decide : 11 + 0 ≤ _), (by decide : 58 + 0 ≤ _)⟩)
     dsimp only [Pt.U, Pt.locs, Pt.cells, Pt.slots] at X1553 l1553 y1553 z1553 st1553 hQ1553
     subst l1553 y1553 z1553
     obtain ⟨rfl, NQ1553, K1553⟩ := hQ1553
     have N1554 := Fr.app N1552 NQ1553
     refine Rch.st (fun _ k => st1553 _ k) ?_
     show Rch p e below T1553 (mkF m 239 #[.val (.int sp), .val (.int qc), .val (.int mc), .val (.int lb), .val (.int lq), .val (.int 1), .val (.int 1), .val (.ref a831), .val (.ref a854), .val (.ref ra_1326), .val (.ref ra_1446), .val (.ref a1468), .val (.ref ra_1511), .val (.int 3)] [(.int 1)]) _
     refine w_ifNo (pc' := 242) X1553 hx hby at_239 (XT.i0_eq_f (by decide)) rfl ?_
     refine w_aload (pc' := 244) X1553 hx hby at_242 rfl rfl rfl ?_
     refine w_iconst (pc' := 245) (v := 3) X1553 hx hby at_244 rfl rfl ?_
     refine w_iload (pc' := 247) X1553 hx hby at_245 rfl rfl ?_
     refine w_iload (pc' := 249) X1553 hx hby at_247 rfl rfl ?_
     refine w_iload (pc' := 251) X1553 hx hby at_249 rfl rfl ?_
     refine w_aload (pc' := 253) X1553 hx hby at_251 rfl rfl rfl ?_
     refine w_aload (pc' := 255) X1553 hx hby at_253 rfl rfl rfl ?_
     obtain ⟨_, _, ⟨T1555, L1555, k1555, n1555⟩, -, X1555, ⟨Lc1555, hQ1555, l1555, y1555, z1555⟩, st1555⟩ := Jvm.LawKit.callS X1553 hx (y := (⟨"com/example/alcance/alcance/IdentifiersQuotedPinLaw", "ok", "(Ljava/lang/String;IIII[C[C)Z"⟩ : MethodName)) hown (mvT hZ (wi hw 154 rfl)) (mvT hZ (wi hw 155 rfl)) (mvT hZ (wi hw 3 rfl)) (mvT hZ (wi hw 156 rfl)) (by decide) (backOf (W := 0) (rm_ok_far l Z a0 hw [] ra_1511 3 3 1 1 a831 a854 T1511.heap h0.size Z1543 (by decide)) hZ (wi hw 156 rfl) (wi hw 3 rfl) (by decide) (by decide)) (g := (mkF m 255 #[.val (.int sp), .val (.int qc), .val (.int mc), .val (.int lb), .val (.int lq), .val (.int 1), .val (.int 1), .val (.ref a831), .val (.ref a854), .val (.ref ra_1326), .val (.ref ra_1446), .val (.ref a1468), .val (.ref ra_1511), .val (.int 3)] [(.ref a854), (.ref a831), (.int 1), (.int 1), (.int 3), (.int 3), (.ref ra_1511)])) rfl (by rw [hml]; rfl) (argsL := [(.ref ra_1511), (.int 3), (.int 3), (.int 1), (.int 1), (.ref a831), (.ref a854)]) (rest := []) (lenOf pd__Ljava_lang_String_IIII_C_C_Z rfl) rfl (by show 2 * 0 + _ ≤ _; exact Nat.le_of_eq rfl) (hb hby at_255) (fun _ _ => ⟨rfl, K1553, (by decide : 11 + 0 ≤ _), (by decide : 58 + 0 ≤ _)⟩)
     dsimp only [Pt.U, Pt.locs, Pt.cells, Pt.slots] at X1555 l1555 y1555 z1555 st1555 hQ1555
     subst l1555 y1555 z1555
     obtain ⟨rfl, NQ1555, K1555⟩ := hQ1555
     have N1556 := Fr.app N1554 NQ1555
     refine Rch.st (fun _ k => st1555 _ k) ?_
     show Rch p e below T1555 (mkF m 258 #[.val (.int sp), .val (.int qc), .val (.int mc), .val (.int lb), .val (.int lq), .val (.int 1), .val (.int 1), .val (.ref a831), .val (.ref a854), .val (.ref ra_1326), .val (.ref ra_1446), .val (.ref a1468), .val (.ref ra_1511), .val (.int 3)] [(.int 1)]) _
     refine w_ifNo (pc' := 261) X1555 hx hby at_258 (XT.i0_eq_f (by decide)) rfl ?_
     refine w_aload (pc' := 263) X1555 hx hby at_261 rfl rfl rfl ?_
     refine w_iconst (pc' := 264) (v := 4) X1555 hx hby at_263 rfl rfl ?_
     refine w_iload (pc' := 266) X1555 hx hby at_264 rfl rfl ?_
     refine w_iload (pc' := 268) X1555 hx hby at_266 rfl rfl ?_
     refine w_iload (pc' := 270) X1555 hx hby at_268 rfl rfl ?_
     refine w_aload (pc' := 272) X1555 hx hby at_270 rfl rfl rfl ?_
     refine w_aload (pc' := 274) X1555 hx hby at_272 rfl rfl rfl ?_
     obtain ⟨_, _, ⟨T1557, L1557, k1557, n1557⟩, -, X1557, ⟨Lc1557, hQ1557, l1557, y1557, z1557⟩, st1557⟩ := Jvm.LawKit.callS X1555 hx (y := (⟨"com/example/alcance/alcance/IdentifiersQuotedPinLaw", "ok", "(Ljava/lang/String;IIII[C[C)Z"⟩ : MethodName)) hown (mvT hZ (wi hw 154 rfl)) (mvT hZ (wi hw 155 rfl)) (mvT hZ (wi hw 3 rfl)) (mvT hZ (wi hw 156 rfl)) (by decide) (backOf (W := 0) (rm_ok_far l Z a0 hw [] ra_1511 4 3 1 1 a831 a854 T1511.heap h0.size Z1543 (by decide)) hZ (wi hw 156 rfl) (wi hw 3 rfl) (by decide) (by decide)) (g := (mkF m 274 #[.val (.int sp), .val (.int qc), .val (.int mc), .val (.int lb), .val (.int lq), .val (.int 1), .val (.int 1), .val (.ref a831), .val (.ref a854), .val (.ref ra_1326), .val (.ref ra_1446), .val (.ref a1468), .val (.ref ra_1511), .val (.int 3)] [(.ref a854), (.ref a831), (.int 1), (.int 1), (.int 3), (.int 4), (.ref ra_1511)])) rfl (by rw [hml]; rfl) (argsL := [(.ref ra_1511), (.int 4), (.int 3), (.int 1), (.int 1), (.ref a831), (.ref a854)]) (rest := []) (lenOf pd__Ljava_lang_String_IIII_C_C_Z rfl) rfl (by show 2 * 0 + _ ≤ _; exact Nat.le_of_eq rfl) (hb hby at_274) (fun _ _ => ⟨rfl, K1555, (by decide : 11 + 0 ≤ _), (by decide : 58 + 0 ≤ _)⟩)
     dsimp only [Pt.U, Pt.locs, Pt.cells, Pt.slots] at X1557 l1557 y1557 z1557 st1557 hQ1557
     subst l1557 y1557 z1557
     obtain ⟨rfl, NQ1557, K1557⟩ := hQ1557
     have N1558 := Fr.app N1556 NQ1557
     refine Rch.st (fun _ k => st1557 _ k) ?_
     show Rch p e below T1557 (mkF m 277 #[.val (.int sp), .val (.int qc), .val (.int mc), .val (.int lb), .val (.int lq), .val (.int 1), .val (.int 1), .val (.ref a831), .val (.ref a854), .val (.ref ra_1326), .val (.ref ra_1446), .val (.ref a1468), .val (.ref ra_1511), .val (.int 3)] [(.int 1)]) _
     refine w_ifNo (pc' := 280) X1557 hx hby at_277 (XT.i0_eq_f (by decide)) rfl ?_
     refine w_aload (pc' := 282) X1557 hx hby at_280 rfl rfl rfl ?_
     refine w_iconst (pc' := 283) (v := 5) X1557 hx hby at_282 rfl rfl ?_
     refine w_iload (pc' := 285) X1557 hx hby at_283 rfl rfl ?_
     refine w_iload (pc' := 287) X1557 hx hby at_285 rfl rfl ?_
     refine w_iload (pc' := 289) X1557 hx hby at_287 rfl rfl ?_
     refine w_aload (pc' := 291) X1557 hx hby at_289 rfl rfl rfl ?_
     refine w_aload (pc' := 293) X1557 hx hby at_291 rfl rfl rfl ?_
     obtain ⟨_, _, ⟨T1559, L1559, k1559, n1559⟩, -, X1559, ⟨Lc1559, hQ1559, l1559, y1559, z1559⟩, st1559⟩ := Jvm.LawKit.callS X1557 hx (y := (⟨"com/example/alcance/alcance/IdentifiersQuotedPinLaw", "ok", "(Ljava/lang/String;IIII[C[C)Z"⟩ : MethodName)) hown (mvT hZ (wi hw 154 rfl)) (mvT hZ (wi hw 155 rfl)) (mvT hZ (wi hw 3 rfl)) (mvT hZ (wi hw 156 rfl)) (by decide) (backOf (W := 0) (rm_ok_far l Z a0 hw [] ra_1511 5 3 1 1 a831 a854 T1511.heap h0.size Z1543 (by decide)) hZ (wi hw 156 rfl) (wi hw 3 rfl) (by decide) (by decide)) (g := (mkF m 293 #[.val (.int sp), .val (.int qc), .val (.int mc), .val (.int lb), .val (.int lq), .val (.int 1), .val (.int 1), .val (.ref a831), .val (.ref a854), .val (.ref ra_1326), .val (.ref ra_1446), .val (.ref a1468), .val (.ref ra_1511), .val (.int 3)] [(.ref a854), (.ref a831), (.int 1), (.int 1), (.int 3), (.int 5), (.ref ra_1511)])) rfl (by rw [hml]; rfl) (argsL := [(.ref ra_1511), (.int 5), (.int 3), (.int 1), (.int 1), (.ref a831), (.ref a854)]) (rest := []) (lenOf pd__Ljava_lang_String_IIII_C_C_Z rfl) rfl (by show 2 * 0 + _ ≤ _; exact Nat.le_of_eq rfl) (hb hby at_293) (fun _ _ => ⟨rfl, K1557, (by decide : 11 + 0 ≤ _), (by decide : 58 + 0 ≤ _)⟩)
     dsimp only [Pt.U, Pt.locs, Pt.cells, Pt.slots] at X1559 l1559 y1559 z1559 st1559 hQ1559
     subst l1559 y1559 z1559
     obtain ⟨rfl, NQ1559, K1559⟩ := hQ1559
     have N1560 := Fr.app N1558 NQ1559
     refine Rch.st (fun _ k => st1559 _ k) ?_
     show Rch p e below T1559 (mkF m 296 #[.val (.int sp), .val (.int qc), .val (.int mc), .val (.int lb), .val (.int lq), .val (.int 1), .val (.int 1), .val (.ref a831), .val (.ref a854), .val (.ref ra_1326), .val (.ref ra_1446), .val (.ref a1468), .val (.ref ra_1511), .val (.int 3)] [(.int 1)]) _
     refine w_ifNo (pc' := 299) X1559 hx hby at_296 (XT.i0_eq_f (by decide)) rfl ?_
     refine w_aload (pc' := 301) X1559 hx hby at_299 rfl rfl rfl ?_
     refine w_bipush (pc' := 303) (v := 6) X1559 hx hby at_301 rfl rfl ?_
     refine w_iload (pc' := 305) X1559 hx hby at_303 rfl rfl ?_
     refine w_iload (pc' := 307) X1559 hx hby at_305 rfl rfl ?_
     refine w_iload (pc' := 309) X1559 hx hby at_307 rfl rfl ?_
     refine w_aload (pc' := 311) X1559 hx hby at_309 rfl rfl rfl ?_
     refine w_aload (pc' := 313) X1559 hx hby at_311 rfl rfl rfl ?_
     obtain ⟨_, _, ⟨T1561, L1561, k1561, n1561⟩, -, X1561, ⟨Lc1561, hQ1561, l1561, y1561, z1561⟩, st1561⟩ := Jvm.LawKit.callS X1559 hx (y := (⟨"com/example/alcance/alcance/IdentifiersQuotedPinLaw", "ok", "(Ljava/lang/String;IIII[C[C)Z"⟩ : MethodName)) hown (mvT hZ (wi hw 154 rfl)) (mvT hZ (wi hw 155 rfl)) (mvT hZ (wi hw 3 rfl)) (mvT hZ (wi hw 156 rfl)) (by decide) (backOf (W := 0) (rm_ok_far l Z a0 hw [] ra_1511 6 3 1 1 a831 a854 T1511.heap h0.size Z1543 (by decide)) hZ (wi hw 156 rfl) (wi hw 3 rfl) (by decide) (by decide)) (g := (mkF m 313 #[.val (.int sp), .val (.int qc), .val (.int mc), .val (.int lb), .val (.int lq), .val (.int 1), .val (.int 1), .val (.ref a831), .val (.ref a854), .val (.ref ra_1326), .val (.ref ra_1446), .val (.ref a1468), .val (.ref ra_1511), .val (.int 3)] [(.ref a854), (.ref a831), (.int 1), (.int 1), (.int 3), (.int 6), (.ref ra_1511)])) rfl (by rw [hml]; rfl) (argsL := [(.ref ra_1511), (.int 6), (.int 3), (.int 1), (.int 1), (.ref a831), (.ref a854)]) (rest := []) (lenOf pd__Ljava_lang_String_IIII_C_C_Z rfl) rfl (by show 2 * 0 + _ ≤ _; exact Nat.le_of_eq rfl) (hb hby at_313) (fun _ _ => ⟨rfl, K1559, (by decide : 11 + 0 ≤ _), (by decide : 58 + 0 ≤ _)⟩)
     dsimp only [Pt.U, Pt.locs, Pt.cells, Pt.slots] at X1561 l1561 y1561 z1561 st1561 hQ1561
     subst l1561 y1561 z1561
     obtain ⟨rfl, NQ1561, K1561⟩ := hQ1561
     have N1562 := Fr.app N1560 NQ1561
     refine Rch.st (fun _ k => st1561 _ k) ?_
     show Rch p e below T1561 (mkF m 316 #[.val (.int sp), .val (.int qc), .val (.int mc), .val (.int lb), .val (.int lq), .val (.int 1), .val (.int 1), .val (.ref a831), .val (.ref a854), .val (.ref ra_1326), .val (.ref ra_1446), .val (.ref a1468), .val (.ref ra_1511), .val (.int 3)] [(.int 1)]) _
     refine w_ifNo (pc' := 319) X1561 hx hby at_316 (XT.i0_eq_f (by decide)) rfl ?_
     refine w_iconst (pc' := 320) (v := 1) X1561 hx hby at_319 rfl rfl ?_
     refine w_goto (pc' := 324) X1561 hx hby at_320 (by decide) ?_
     exact Rch.retVW X1561 hx hS0 (by rw [K1561]; exact hk1544) Bd.returns rfl (Or.inl ⟨rfl, by simp, _, rfl⟩) (hb hby at_324) (by rw [K1561]; exact ⟨rfl, (own_Fr Z0 N1562), Kp1542, own_ib_mono (own_ib (s := s.setVm s.vm) hI X1561.warmed) (by decide)⟩) (by decide) (by decide)
    ·skip
     show Rch p e below T1326 (mkF m 129 #[.val (.int sp), .val (.int qc), .val (.int mc), .val (.int lb), .val (.int lq), .val (.int 1), .val (.int 2), .val (.ref a831), .val (.ref a854), .val (.ref ra_1326), .unset, .unset, .unset, .unset] [(.int 0), (.ref a854), (.ref a831), (.int 2)]) _
     obtain ⟨_, _, ⟨T1563, L1563, k1563, n1563⟩, -, X1563, ⟨Lc1563, hQ1563, l1563, y1563, z1563⟩, st1563⟩ := Jvm.LawKit.callS X1326 hx (y := (⟨"com/example/alcance/alcance/IdentifiersQuotedPinLaw", "make", "(I[C[CZ)Ljava/lang/String;"⟩ : MethodName)) hown (mvT hZ (wi hw 1 rfl)) (mvT hZ (wi hw 2 rfl)) (mvT hZ (wi hw 3 rfl)) (mvT hZ (wi hw 4 rfl)) (by decide) (backOf (W := 0) (rm_mk_0_2 l Z a0 hw [] G1 a831 a854 kc854 na nb nc T1326.heap h0.size Z1338 (O2) (P5) f1335 (ch_na) (ch_nb) Old1336) hZ (wi hw 4 rfl) (wi hw 3 rfl) (by decide) (by decide)) (g := (mkF m 129 #[.val (.int sp), .val (.int qc), .val (.int mc), .val (.int lb), .val (.int lq), .val (.int 1), .val (.int 2), .val (.ref a831), .val (.ref a854), .val (.ref ra_1326), .unset, .unset, .unset, .unset] [(.int 0), (.ref a854), (.ref a831), (.int 2)])) rfl (by rw [hml]; rfl) (argsL := [(.int 2), (.ref a831), (.ref a854), (.int 0)]) (rest := []) (lenOf pd__I_C_CZ_Ljava_lang_String_ rfl) rfl (by show 2 * 0 + _ ≤ _; exact Nat.le_of_eq rfl) (hb hby at_129) (fun _ _ => ⟨rfl, (rfl : T1326.heap = T1326.heap), (by decide : 4 + 3 ≤ _), (by decide : 10 + 8 ≤ _)⟩)
     dsimp only [Pt.U, Pt.locs, Pt.cells, Pt.slots] at X1563 l1563 y1563 z1563 st1563 hQ1563
     subst l1563 y1563 z1563
     obtain ⟨ra_1563, t_1563, kt_1563, rfl, NQ1563, K1563, pq1563_0, pq1563_1, fq1563_0, fq1563_1, fq1563_2, fq1563_3⟩ := hQ1563
     have N1564 := Fr.app N1327 NQ1563
     have f1575 := f1334.keep K1563 nin0
     have f1576 := f1335.keep K1563 nin0
     have f1577 := fq1326_0.keep K1563
     have f1578 := fq1326_1.keep K1563 nin0
     have f1579 := fq1326_2.keep K1563 nin0
     have f1580 := fq1326_3.keep K1563 nin0
     have Old1581 := Old1336.keep K1563 all0
     have Kp1582 : Keep h0 T1563.heap [] := Kp1337.trans K1563 all0
     have Z1583 := Nat.le_trans Z1338 K1563.1
     have hk1584 := Nat.le_trans hk1339 K1563.1
     refine Rch.st (fun _ k => st1563 _ k) ?_
     show Rch p e below T1563 (mkF m 132 #[.val (.int sp), .val (.int qc), .val (.int mc), .val (.int lb), .val (.int lq), .val (.int 1), .val (.int 2), .val (.ref a831), .val (.ref a854), .val (.ref ra_1326), .unset, .unset, .unset, .unset] [(.ref ra_1563)]) _
     refine w_astore (pc' := 134) (l' := #[.val (.int sp), .val (.int qc), .val (.int mc), .val (.int lb), .val (.int lq), .val (.int 1), .val (.int 2), .val (.ref a831), .val (.ref a854), .val (.ref ra_1326), .val (.ref ra_1563), .unset, .unset, .unset]) X1563 hx hby at_132 rfl rfl rfl ?_
     obtain ⟨T1585, h1585, X1585, e1585, E1585, A1585, D1585, -, st1585⟩ := newO X1563 hx hZ hown (wi hw 13 rfl) (wi hw 14 rfl) (wi hw 15 rfl) (rfl : T1563.heap = T1563.heap) (g := (mkF m 134 #[.val (.int sp), .val (.int qc), .val (.int mc), .val (.int lb), .val (.int lq), .val (.int 1), .val (.int 2), .val (.ref a831), .val (.ref a854), .val (.ref ra_1326), .val (.ref ra_1563), .unset, .unset, .unset] [])) rfl (hb hby at_134) (by decide) (by decide)
     obtain ⟨a1585, g1585⟩ : ∃ z, z = T1563.heap.size := ⟨_, rfl⟩
     rw [← g1585] at A1585 D1585 st1585
     have ne1586 : a831 ≠ a1585 := by rw [g1585]; exact Nat.ne_of_lt f1575.lt
     have ne1587 : a854 ≠ a1585 := by rw [g1585]; exact Nat.ne_of_lt f1576.lt
     have ne1588 : ra_1326 ≠ a1585 := by rw [g1585]; exact Nat.ne_of_lt f1577.lt
     have ne1589 : ra_1563 ≠ a1585 := by rw [g1585]; exact Nat.ne_of_lt fq1563_0.lt
     have ne1590 : t_1326 ≠ a1585 := by rw [g1585]; exact Nat.ne_of_lt f1580.lt
     have ne1591 : t_1563 ≠ a1585 := by rw [g1585]; exact Nat.ne_of_lt fq1563_3.lt
     have ge1592 : h0.size ≤ a1585 := Nat.le_trans Z1583 (Nat.le_of_eq g1585.symm)
     have hk1594 := Nat.le_trans hk1584 E1585.1
     have f1595 := f1575.ext E1585
     have f1596 := f1576.ext E1585
     have f1597 := f1577.ext E1585
     have f1598 := f1578.ext E1585
     have f1599 := f1579.ext E1585
     have f1600 := f1580.ext E1585
     have f1601 := fq1563_0.ext E1585
     have f1602 := fq1563_1.ext E1585
     have f1603 := fq1563_2.ext E1585
     have f1604 := fq1563_3.ext E1585
     have Old1605 := Old1581.ext E1585
     have Z1606 := Nat.le_trans Z1583 E1585.1
     have Kp1607 : Keep h0 h1585 [] := Kp1582.ext E1585
     have f1608 : Fld Z h1585 a1585 "com/example/alcance/alcance/Identifiers" "lowersBare" "Z" (.int (0 : Int32)) := D1585 (Or.inr (wi hw 28 rfl)) (ty := .boolean) (by decide)
     have f1609 : Fld Z h1585 a1585 "com/example/alcance/alcance/Identifiers" "lowersQuoted" "Z" (.int (0 : Int32)) := D1585 (Or.inr (wi hw 30 rfl)) (ty := .boolean) (by decide)
     have f1610 : Fld Z h1585 a1585 "com/example/alcance/alcance/Identifiers" "quote" "Ljava/lang/String;" .null := D1585 (Or.inr (wi hw 32 rfl)) (ty := (.object "java/lang/String")) (by decide)
     refine Rch.st (fun _ k => st1585 _ k) ?_
     show Rch p e below T1585 (mkF m 137 #[.val (.int sp), .val (.int qc), .val (.int mc), .val (.int lb), .val (.int lq), .val (.int 1), .val (.int 2), .val (.ref a831), .val (.ref a854), .val (.ref ra_1326), .val (.ref ra_1563), .unset, .unset, .unset] [(.ref a1585)]) _
     refine w_dup (pc' := 138) X1585 hx hby at_137 rfl rfl ?_
     refine w_iloadN (pc' := 139) X1585 hx hby at_138 rfl rfl ?_
     refine w_iload (pc' := 141) X1585 hx hby at_139 rfl rfl ?_
     refine w_aload (pc' := 143) X1585 hx hby at_141 rfl rfl rfl ?_
     obtain ⟨_, _, ⟨T1611, L1611, k1611, n1611⟩, -, X1611, ⟨Lc1611, hQ1611, l1611, y1611, z1611⟩, st1611⟩ := X1585.specialBack hx (y := (⟨"com/example/alcance/alcance/Identifiers", "<init>", "(ZZLjava/lang/String;)V"⟩ : MethodName)) rfl hown (mvT hZ (wi hw 16 rfl)) (mvT hZ (wi hw 17 rfl)) (mvT hZ (wi hw 18 rfl)) (by decide) (backOf (W := 1) (rm_id l Z a0 hw [] a1585 lb lq ra_1326 h1585 h0.size Z1606 A1585 f1608 f1609 f1610 (ge1592) (hlb) (hlq)) hZ (wi hw 18 rfl) (wi hw 15 rfl) (by decide) (by decide)) (g := (mkF m 143 #[.val (.int sp), .val (.int qc), .val (.int mc), .val (.int lb), .val (.int lq), .val (.int 1), .val (.int 2), .val (.ref a831), .val (.ref a854), .val (.ref ra_1326), .val (.ref ra_1563), .unset, .unset, .unset] [(.ref ra_1326), (.int lq), (.int lb), (.ref a1585), (.ref a1585)])) rfl (by rw [hml]; rfl) (Steps.refl _) (a := a1585) (argsL := [(.int lb), (.int lq), (.ref ra_1326)]) (rest := [(.ref a1585)]) (lenOf pd__ZZLjava_lang_String__V rfl) rfl (by show 2 * 0 + _ ≤ _; exact Nat.le_of_eq rfl) (hb hby at_143) (fun _ _ => ⟨rfl, e1585, (by decide : 8 + 0 ≤ _), (by decide : 21 + 0 ≤ _)⟩)
     dsimp only [Pt.U, Pt.locs, Pt.cells, Pt.slots] at X1611 l1611 y1611 z1611 st1611 hQ1611
     subst l1611 y1611 z1611
     obtain ⟨rfl, NQ1611, K1611, fq1611_0⟩ := hQ1611
     have N1612 := Fr.app N1564 NQ1611
     have f1613 := f1595.keep K1611 (ninS ne1586 nin0)
     have f1614 := f1596.keep K1611 (ninS ne1587 nin0)
     have f1615 := f1597.keep K1611
     have f1616 := f1598.keep K1611 (ninS ne1588 nin0)
     have f1617 := f1599.keep K1611 (ninS ne1588 nin0)
     have f1618 := f1600.keep K1611 (ninS ne1590 nin0)
     have f1619 := f1601.keep K1611
     have f1620 := f1602.keep K1611 (ninS ne1589 nin0)
     have f1621 := f1603.keep K1611 (ninS ne1589 nin0)
     have f1622 := f1604.keep K1611 (ninS ne1591 nin0)
     have f1623 := A1585.keep K1611
     have Old1624 := Old1605.keep K1611 (allS ge1592 all0)
     have Kp1625 : Keep h0 T1611.heap [] := Kp1607.trans K1611 (allS (Or.inr (Nat.le_trans Kp1582.1 (Nat.le_of_eq g1585.symm))) all0)
     have Z1626 := Nat.le_trans Z1606 K1611.1
     have hk1627 := Nat.le_trans hk1594 K1611.1
     refine Rch.st (fun _ k => st1611.trans k) ?_
     show Rch p e below T1611 (mkF m 146 #[.val (.int sp), .val (.int qc), .val (.int mc), .val (.int lb), .val (.int lq), .val (.int 1), .val (.int 2), .val (.ref a831), .val (.ref a854), .val (.ref ra_1326), .val (.ref ra_1563), .unset, .unset, .unset] [(.ref a1585)]) _
     refine w_astore (pc' := 148) (l' := #[.val (.int sp), .val (.int qc), .val (.int mc), .val (.int lb), .val (.int lq), .val (.int 1), .val (.int 2), .val (.ref a831), .val (.ref a854), .val (.ref ra_1326), .val (.ref ra_1563), .val (.ref a1585), .unset, .unset]) X1611 hx hby at_146 rfl rfl rfl ?_
     refine w_aload (pc' := 150) X1611 hx hby at_148 rfl rfl rfl ?_
     refine w_aload (pc' := 152) X1611 hx hby at_150 rfl rfl rfl ?_
     obtain ⟨cq1628, kq1628, q1628a, q1628b, q1628c⟩ := isOf hZ (rfl : T1611.heap = T1611.heap) f1623
     obtain ⟨_, _, ⟨T1628, L1628, k1628, n1628⟩, -, X1628, ⟨Lc1628, hQ1628, l1628, y1628, z1628⟩, st1628⟩ := X1611.virtualBack hx (y := (⟨"com/example/alcance/alcance/Identifiers", "quoted", "(Ljava/lang/String;)Ljava/lang/String;"⟩ : MethodName)) (z := (⟨"com/example/alcance/alcance/Identifiers", "quoted", "(Ljava/lang/String;)Ljava/lang/String;"⟩ : MethodName)) hown (mvT hZ (wi hw 33 rfl)) (mvT hZ (wi hw 34 rfl)) (notFace_of_selects (args := #[]) (mvT hZ (wi hw 36 rfl))) (mvT hZ (wi hw 36 rfl)) (mvT hZ (wi hw 35 rfl)) (by decide) (backOf (W := 0) (rm_qu l Z a0 hw [] G1 a1585 ra_1326 t_1326 kt_1326 1 ([(.int (own_by qa))]) (.int 0) ra_1563 t_1563 kt_1563 2 ([(.int (own_by na)), (.int (own_by nb))]) (.int 0) T1611.heap h0.size Z1626 (O2) (P5) fq1611_0 f1615 f1616 f1617 f1618 f1619 f1620 f1621 f1622 (by decide) (by decide) (by decide) (by decide) (by decide) (by decide) (by decide) (by decide) (by decide) (by decide) (by decide) (by decide) (by decide) (by decide) Old1624) hZ (wi hw 37 rfl) (wi hw 15 rfl) (by decide) (by decide)) q1628a q1628c (g := (mkF m 152 #[.val (.int sp), .val (.int qc), .val (.int mc), .val (.int lb), .val (.int lq), .val (.int 1), .val (.int 2), .val (.ref a831), .val (.ref a854), .val (.ref ra_1326), .val (.ref ra_1563), .val (.ref a1585), .unset, .unset] [(.ref ra_1563), (.ref a1585)])) rfl (by rw [hml]; rfl) (Steps.refl _) (argsL := [(.ref ra_1563)]) (rest := []) (lenOf pd__Ljava_lang_String__Ljava_lang_String_ rfl) rfl (by show 2 * 0 + _ ≤ _; exact Nat.le_of_eq rfl) (hb hby at_152) (fun _ _ => ⟨rfl, (rfl : T1611.heap = T1611.heap), (by decide : 8 + 4 ≤ _), (by decide : 21 + 40 ≤ _)⟩)
     dsimp only [Pt.U, Pt.locs, Pt.cells, Pt.slots] at X1628 l1628 y1628 z1628 st1628 hQ1628
     subst l1628 y1628 z1628
     obtain ⟨ra_1628, t_1628, kt_1628, rfl, NQ1628, K1628, pq1628_0, pq1628_1, fq1628_0, fq1628_1, fq1628_2, fq1628_3⟩ := hQ1628
     have N1629 := Fr.app N1612 NQ1628
     have f1646 := f1613.keep K1628 nin0
     have f1647 := f1614.keep K1628 nin0
     have Old1658 := Old1624.keep K1628 all0
     have Kp1659 : Keep h0 T1628.heap [] := Kp1625.trans K1628 all0
     have Z1660 := Nat.le_trans Z1626 K1628.1
     have hk1661 := Nat.le_trans hk1627 K1628.1
     refine Rch.st (fun _ k => st1628.trans k) ?_
     show Rch p e below T1628 (mkF m 155 #[.val (.int sp), .val (.int qc), .val (.int mc), .val (.int lb), .val (.int lq), .val (.int 1), .val (.int 2), .val (.ref a831), .val (.ref a854), .val (.ref ra_1326), .val (.ref ra_1563), .val (.ref a1585), .unset, .unset] [(.ref ra_1628)]) _
     have f1662 : Arv Z T1628.heap t_1628 kt_1628 .byte (4 : Int32) [(.int (own_by qa)), (.int (own_by na)), (.int (own_by nb)), (.int (own_by qa))] (.int (0 : Int32)) := by have z := fq1628_3; rw [show ((((0 : Int32) + (1 : Int32)) + (2 : Int32)) + (1 : Int32)) = (4 : Int32) from by decide, own_cat, own_t1, own_t2] at z; exact z
     refine w_astore (pc' := 157) (l' := #[.val (.int sp), .val (.int qc), .val (.int mc), .val (.int lb), .val (.int lq), .val (.int 1), .val (.int 2), .val (.ref a831), .val (.ref a854), .val (.ref ra_1326), .val (.ref ra_1563), .val (.ref a1585), .val (.ref ra_1628), .unset]) X1628 hx hby at_155 rfl rfl rfl ?_
     refine w_aload (pc' := 159) X1628 hx hby at_157 rfl rfl rfl ?_
     refine w_nonnullYes (pc' := 164) X1628 hx hby at_159 rfl (fun q => nomatch q) (by decide) ?_
     refine w_iconst (pc' := 165) (v := 2) X1628 hx hby at_164 rfl rfl ?_
     refine w_iload (pc' := 167) X1628 hx hby at_165 rfl rfl ?_
     refine w_imul (pc' := 168) X1628 hx hby at_167 rfl ?_
     refine w_iload (pc' := 170) X1628 hx hby at_168 rfl rfl ?_
     refine w_iadd (pc' := 171) X1628 hx hby at_170 rfl ?_
     have r1663 : (((2 : Int32) * (1 : Int32)) + (2 : Int32)) = (4 : Int32) := by decide
     rw [r1663]
     show Rch p e below T1628 (mkF m 171 #[.val (.int sp), .val (.int qc), .val (.int mc), .val (.int lb), .val (.int lq), .val (.int 1), .val (.int 2), .val (.ref a831), .val (.ref a854), .val (.ref ra_1326), .val (.ref ra_1563), .val (.ref a1585), .val (.ref ra_1628), .unset] [(.int 4)]) _
     refine w_istore (pc' := 173) (l' := #[.val (.int sp), .val (.int qc), .val (.int mc), .val (.int lb), .val (.int lq), .val (.int 1), .val (.int 2), .val (.ref a831), .val (.ref a854), .val (.ref ra_1326), .val (.ref ra_1563), .val (.ref a1585), .val (.ref ra_1628), .val (.int 4)]) X1628 hx hby at_171 rfl rfl ?_
     refine w_aload (pc' := 175) X1628 hx hby at_173 rfl rfl rfl ?_
     obtain ⟨cq1664, kq1664, q1664a, q1664b, q1664c⟩ := isOf hZ (rfl : T1628.heap = T1628.heap) fq1628_0
     obtain ⟨_, _, ⟨T1664, L1664, k1664, n1664⟩, -, X1664, ⟨Lc1664, hQ1664, l1664, y1664, z1664⟩, st1664⟩ := X1628.virtualBack hx (y := (⟨"java/lang/String", "length", "()I"⟩ : MethodName)) (z := (⟨"java/lang/String", "length", "()I"⟩ : MethodName)) hown (mvT hZ (wi hw 153 rfl)) (mvT hZ (wi hw 67 rfl)) (notFace_of_selects (args := #[]) (mvT hZ (wi hw 69 rfl))) (mvT hZ (wi hw 69 rfl)) (mvT hZ (wi hw 68 rfl)) (by decide) (backOf (W := 0) (rm_length l Z a0 hw [] G1 ra_1628 0 t_1628 kt_1628 4 ([(.int (own_by qa)), (.int (own_by na)), (.int (own_by nb)), (.int (own_by qa))]) (.int 0) T1628.heap h0.size Z1660 (O2) (P5) fq1628_1 (Or.inl rfl) fq1628_2 f1662 fq1628_0 Old1658) hZ (wi hw 70 rfl) (wi hw 6 rfl) (by decide) (by decide)) q1664a q1664c (g := (mkF m 175 #[.val (.int sp), .val (.int qc), .val (.int mc), .val (.int lb), .val (.int lq), .val (.int 1), .val (.int 2), .val (.ref a831), .val (.ref a854), .val (.ref ra_1326), .val (.ref ra_1563), .val (.ref a1585), .val (.ref ra_1628), .val (.int 4)] [(.ref ra_1628)])) rfl (by rw [hml]; rfl) (Steps.refl _) (argsL := []) (rest := []) (lenOf pd___I rfl) rfl (by show 2 * 0 + _ ≤ _; exact Nat.le_of_eq rfl) (hb hby at_175) (fun _ _ => ⟨rfl, (rfl : T1628.heap = T1628.heap), (by decide : 12 + 0 ≤ _), (by decide : 61 + 0 ≤ _)⟩)
     dsimp only [Pt.U, Pt.locs, Pt.cells, Pt.slots] at X1664 l1664 y1664 z1664 st1664 hQ1664
     subst l1664 y1664 z1664
     obtain ⟨rfl, NQ1664, K1664⟩ := hQ1664
     have N1665 := Fr.app N1629 NQ1664
     refine Rch.st (fun _ k => st1664.trans k) ?_
     show Rch p e below T1664 (mkF m 178 #[.val (.int sp), .val (.int qc), .val (.int mc), .val (.int lb), .val (.int lq), .val (.int 1), .val (.int 2), .val (.ref a831), .val (.ref a854), .val (.ref ra_1326), .val (.ref ra_1563), .val (.ref a1585), .val (.ref ra_1628), .val (.int 4)] [(.int ((4 : Int32) >>> ((0 : Int32) &&& 31)))]) _
     refine w_iload (pc' := 180) X1664 hx hby at_178 rfl rfl ?_
     refine w_icmpYes (pc' := 185) X1664 hx hby at_180 (XT.ii_eq_t (by decide)) (by decide) ?_
     refine w_aload (pc' := 187) X1664 hx hby at_185 rfl rfl rfl ?_
     refine w_iconst (pc' := 188) (v := 0) X1664 hx hby at_187 rfl rfl ?_
     refine w_iload (pc' := 190) X1664 hx hby at_188 rfl rfl ?_
     refine w_iload (pc' := 192) X1664 hx hby at_190 rfl rfl ?_
     refine w_iload (pc' := 194) X1664 hx hby at_192 rfl rfl ?_
     refine w_aload (pc' := 196) X1664 hx hby at_194 rfl rfl rfl ?_
     refine w_aload (pc' := 198) X1664 hx hby at_196 rfl rfl rfl ?_
     obtain ⟨_, _, ⟨T1666, L1666, k1666, n1666⟩, -, X1666, ⟨Lc1666, hQ1666, l1666, y1666, z1666⟩, st1666⟩ := Jvm.LawKit.callS X1664 hx (y := (⟨"com/example/alcance/alcance/IdentifiersQuotedPinLaw", "ok", "(Ljava/lang/String;IIII[C[C)Z"⟩ : MethodName)) hown (mvT hZ (wi hw 154 rfl)) (mvT hZ (wi hw 155 rfl)) (mvT hZ (wi hw 3 rfl)) (mvT hZ (wi hw 156 rfl)) (by decide) (backOf (W := 0) (rm_ok_A l Z a0 hw [] G1 G3 ra_1628 t_1628 kt_1628 4 ([(.int (own_by qa)), (.int (own_by na)), (.int (own_by nb)), (.int (own_by qa))]) (.int 0) 0 1 2 a831 kc831 ([(.int qa), (.int qb)]) (.int 0) a854 kc854 ([(.int na), (.int nb), (.int nc)]) (.int 0) qa 4 T1628.heap h0.size Z1660 (O2) (P5) (O4) (rG3) fq1628_0 fq1628_1 fq1628_2 f1662 f1646 f1647 (by decide) (⟨by decide, by decide⟩) (by rfl) (ch_qa) (by decide) (by decide) (by decide) (by rfl) Old1658) hZ (wi hw 156 rfl) (wi hw 3 rfl) (by decide) (by decide)) (g := (mkF m 198 #[.val (.int sp), .val (.int qc), .val (.int mc), .val (.int lb), .val (.int lq), .val (.int 1), .val (.int 2), .val (.ref a831), .val (.ref a854), .val (.ref ra_1326), .val (.ref ra_1563), .val (.ref a1585), .val (.ref ra_1628), .val (.int 4)] [(.ref a854), (.ref a831), (.int 2), (.int 1), (.int 4), (.int 0), (.ref ra_1628)])) rfl (by rw [hml]; rfl) (argsL := [(.ref ra_1628), (.int 0), (.int 4), (.int 1), (.int 2), (.ref a831), (.ref a854)]) (rest := []) (lenOf pd__Ljava_lang_String_IIII_C_C_Z rfl) rfl (by show 2 * 0 + _ ≤ _; exact Nat.le_of_eq rfl) (hb hby at_198) (fun _ _ => ⟨rfl, K1664, (by decide : 12 + 0 ≤ _), (by decide : 61 + 0 ≤ _)⟩)
     dsimp only [Pt.U, Pt.locs, Pt.cells, Pt.slots] at X1666 l1666 y1666 z1666 st1666 hQ1666
     subst l1666 y1666 z1666
     obtain ⟨rfl, NQ1666, K1666⟩ := hQ1666
     have N1667 := Fr.app N1665 NQ1666
     refine Rch.st (fun _ k => st1666 _ k) ?_
     show Rch p e below T1666 (mkF m 201 #[.val (.int sp), .val (.int qc), .val (.int mc), .val (.int lb), .val (.int lq), .val (.int 1), .val (.int 2), .val (.ref a831), .val (.ref a854), .val (.ref ra_1326), .val (.ref ra_1563), .val (.ref a1585), .val (.ref ra_1628), .val (.int 4)] [(.int 1)]) _
     refine w_ifNo (pc' := 204) X1666 hx hby at_201 (XT.i0_eq_f (by decide)) rfl ?_
     refine w_aload (pc' := 206) X1666 hx hby at_204 rfl rfl rfl ?_
     refine w_iconst (pc' := 207) (v := 1) X1666 hx hby at_206 rfl rfl ?_
     refine w_iload (pc' := 209) X1666 hx hby at_207 rfl rfl ?_
     refine w_iload (pc' := 211) X1666 hx hby at_209 rfl rfl ?_
     refine w_iload (pc' := 213) X1666 hx hby at_211 rfl rfl ?_
     refine w_aload (pc' := 215) X1666 hx hby at_213 rfl rfl rfl ?_
     refine w_aload (pc' := 217) X1666 hx hby at_215 rfl rfl rfl ?_
     obtain ⟨_, _, ⟨T1668, L1668, k1668, n1668⟩, -, X1668, ⟨Lc1668, hQ1668, l1668, y1668, z1668⟩, st1668⟩ := Jvm.LawKit.callS X1666 hx (y := (⟨"com/example/alcance/alcance/IdentifiersQuotedPinLaw", "ok", "(Ljava/lang/String;IIII[C[C)Z"⟩ : MethodName)) hown (mvT hZ (wi hw 154 rfl)) (mvT hZ (wi hw 155 rfl)) (mvT hZ (wi hw 3 rfl)) (mvT hZ (wi hw 156 rfl)) (by decide) (backOf (W := 0) (rm_ok_B l Z a0 hw [] G1 G3 ra_1628 t_1628 kt_1628 4 ([(.int (own_by qa)), (.int (own_by na)), (.int (own_by nb)), (.int (own_by qa))]) (.int 0) 1 1 2 a831 kc831 ([(.int qa), (.int qb)]) (.int 0) a854 kc854 ([(.int na), (.int nb), (.int nc)]) (.int 0) na 4 T1628.heap h0.size Z1660 (O2) (P5) (O4) (rG3) fq1628_0 fq1628_1 fq1628_2 f1662 f1646 f1647 (by decide) (by decide) (⟨by decide, by decide⟩) (by rfl) (ch_na) (by decide) (by decide) (by decide) (by rfl) Old1658) hZ (wi hw 156 rfl) (wi hw 3 rfl) (by decide) (by decide)) (g := (mkF m 217 #[.val (.int sp), .val (.int qc), .val (.int mc), .val (.int lb), .val (.int lq), .val (.int 1), .val (.int 2), .val (.ref a831), .val (.ref a854), .val (.ref ra_1326), .val (.ref ra_1563), .val (.ref a1585), .val (.ref ra_1628), .val (.int 4)] [(.ref a854), (.ref a831), (.int 2), (.int 1), (.int 4), (.int 1), (.ref ra_1628)])) rfl (by rw [hml]; rfl) (argsL := [(.ref ra_1628), (.int 1), (.int 4), (.int 1), (.int 2), (.ref a831), (.ref a854)]) (rest := []) (lenOf pd__Ljava_lang_String_IIII_C_C_Z rfl) rfl (by show 2 * 0 + _ ≤ _; exact Nat.le_of_eq rfl) (hb hby at_217) (fun _ _ => ⟨rfl, K1666, (by decide : 12 + 0 ≤ _), (by decide : 61 + 0 ≤ _)⟩)
     dsimp only [Pt.U, Pt.locs, Pt.cells, Pt.slots] at X1668 l1668 y1668 z1668 st1668 hQ1668
     subst l1668 y1668 z1668
     obtain ⟨rfl, NQ1668, K1668⟩ := hQ1668
     have N1669 := Fr.app N1667 NQ1668
     refine Rch.st (fun _ k => st1668 _ k) ?_
     show Rch p e below T1668 (mkF m 220 #[.val (.int sp), .val (.int qc), .val (.int mc), .val (.int lb), .val (.int lq), .val (.int 1), .val (.int 2), .val (.ref a831), .val (.ref a854), .val (.ref ra_1326), .val (.ref ra_1563), .val (.ref a1585), .val (.ref ra_1628), .val (.int 4)] [(.int 1)]) _
     refine w_ifNo (pc' := 223) X1668 hx hby at_220 (XT.i0_eq_f (by decide)) rfl ?_
     refine w_aload (pc' := 225) X1668 hx hby at_223 rfl rfl rfl ?_
     refine w_iconst (pc' := 226) (v := 2) X1668 hx hby at_225 rfl rfl ?_
     refine w_iload (pc' := 228) X1668 hx hby at_226 rfl rfl ?_
     refine w_iload (pc' := 230) X1668 hx hby at_228 rfl rfl ?_
     refine w_iload (pc' := 232) X1668 hx hby at_230 rfl rfl ?_
     refine w_aload (pc' := 234) X1668 hx hby at_232 rfl rfl rfl ?_
     refine w_aload (pc' := 236) X1668 hx hby at_234 rfl rfl rfl ?_
     obtain ⟨_, _, ⟨T1670, L1670, k1670, n1670⟩, -, X1670, ⟨Lc1670, hQ1670, l1670, y1670, z1670⟩, st1670⟩ := Jvm.LawKit.callS X1668 hx (y := (⟨"com/example/alcance/alcance/IdentifiersQuotedPinLaw", "ok", "(Ljava/lang/String;IIII[C[C)Z"⟩ : MethodName)) hown (mvT hZ (wi hw 154 rfl)) (mvT hZ (wi hw 155 rfl)) (mvT hZ (wi hw 3 rfl)) (mvT hZ (wi hw 156 rfl)) (by decide) (backOf (W := 0) (rm_ok_B l Z a0 hw [] G1 G3 ra_1628 t_1628 kt_1628 4 ([(.int (own_by qa)), (.int (own_by na)), (.int (own_by nb)), (.int (own_by qa))]) (.int 0) 2 1 2 a831 kc831 ([(.int qa), (.int qb)]) (.int 0) a854 kc854 ([(.int na), (.int nb), (.int nc)]) (.int 0) nb 4 T1628.heap h0.size Z1660 (O2) (P5) (O4) (rG3) fq1628_0 fq1628_1 fq1628_2 f1662 f1646 f1647 (by decide) (by decide) (⟨by decide, by decide⟩) (by rfl) (ch_nb) (by decide) (by decide) (by decide) (by rfl) Old1658) hZ (wi hw 156 rfl) (wi hw 3 rfl) (by decide) (by decide)) (g := (mkF m 236 #[.val (.int sp), .val (.int qc), .val (.int mc), .val (.int lb), .val (.int lq), .val (.int 1), .val (.int 2), .val (.ref a831), .val (.ref a854), .val (.ref ra_1326), .val (.ref ra_1563), .val (.ref a1585), .val (.ref ra_1628), .val (.int 4)] [(.ref a854), (.ref a831), (.int 2), (.int 1), (.int 4), (.int 2), (.ref ra_1628)])) rfl (by rw [hml]; rfl) (argsL := [(.ref ra_1628), (.int 2), (.int 4), (.int 1), (.int 2), (.ref a831), (.ref a854)]) (rest := []) (lenOf pd__Ljava_lang_String_IIII_C_C_Z rfl) rfl (by show 2 * 0 + _ ≤ _; exact Nat.le_of_eq rfl) (hb hby at_236) (fun _ _ => ⟨rfl, K1668, (by decide : 12 + 0 ≤ _), (by decide : 61 + 0 ≤ _)⟩)
     dsimp only [Pt.U, Pt.locs, Pt.cells, Pt.slots] at X1670 l1670 y1670 z1670 st1670 hQ1670
     subst l1670 y1670 z1670
     obtain ⟨rfl, NQ1670, K1670⟩ := hQ1670
     have N1671 := Fr.app N1669 NQ1670
     refine Rch.st (fun _ k => st1670 _ k) ?_
     show Rch p e below T1670 (mkF m 239 #[.val (.int sp), .val (.int qc), .val (.int mc), .val (.int lb), .val (.int lq), .val (.int 1), .val (.int 2), .val (.ref a831), .val (.ref a854), .val (.ref ra_1326), .val (.ref ra_1563), .val (.ref a1585), .val (.ref ra_1628), .val (.int 4)] [(.int 1)]) _
     refine w_ifNo (pc' := 242) X1670 hx hby at_239 (XT.i0_eq_f (by decide)) rfl ?_
     refine w_aload (pc' := 244) X1670 hx hby at_242 rfl rfl rfl ?_
     refine w_iconst (pc' := 245) (v := 3) X1670 hx hby at_244 rfl rfl ?_
     refine w_iload (pc' := 247) X1670 hx hby at_245 rfl rfl ?_
     refine w_iload (pc' := 249) X1670 hx hby at_247 rfl rfl ?_
     refine w_iload (pc' := 251) X1670 hx hby at_249 rfl rfl ?_
     refine w_aload (pc' := 253) X1670 hx hby at_251 rfl rfl rfl ?_
     refine w_aload (pc' := 255) X1670 hx hby at_253 rfl rfl rfl ?_
     obtain ⟨_, _, ⟨T1672, L1672, k1672, n1672⟩, -, X1672, ⟨Lc1672, hQ1672, l1672, y1672, z1672⟩, st1672⟩ := Jvm.LawKit.callS X1670 hx (y := (⟨"com/example/alcance/alcance/IdentifiersQuotedPinLaw", "ok", "(Ljava/lang/String;IIII[C[C)Z"⟩ : MethodName)) hown (mvT hZ (wi hw 154 rfl)) (mvT hZ (wi hw 155 rfl)) (mvT hZ (wi hw 3 rfl)) (mvT hZ (wi hw 156 rfl)) (by decide) (backOf (W := 0) (rm_ok_C l Z a0 hw [] G1 G3 ra_1628 t_1628 kt_1628 4 ([(.int (own_by qa)), (.int (own_by na)), (.int (own_by nb)), (.int (own_by qa))]) (.int 0) 3 1 2 a831 kc831 ([(.int qa), (.int qb)]) (.int 0) a854 kc854 ([(.int na), (.int nb), (.int nc)]) (.int 0) qa 4 T1628.heap h0.size Z1660 (O2) (P5) (O4) (rG3) fq1628_0 fq1628_1 fq1628_2 f1662 f1646 f1647 (by decide) (by decide) (⟨by decide, by decide⟩) (by rfl) (ch_qa) (by decide) (by decide) (by decide) (by rfl) Old1658) hZ (wi hw 156 rfl) (wi hw 3 rfl) (by decide) (by decide)) (g := (mkF m 255 #[.val (.int sp), .val (.int qc), .val (.int mc), .val (.int lb), .val (.int lq), .val (.int 1), .val (.int 2), .val (.ref a831), .val (.ref a854), .val (.ref ra_1326), .val (.ref ra_1563), .val (.ref a1585), .val (.ref ra_1628), .val (.int 4)] [(.ref a854), (.ref a831), (.int 2), (.int 1), (.int 4), (.int 3), (.ref ra_1628)])) rfl (by rw [hml]; rfl) (argsL := [(.ref ra_1628), (.int 3), (.int 4), (.int 1), (.int 2), (.ref a831), (.ref a854)]) (rest := []) (lenOf pd__Ljava_lang_String_IIII_C_C_Z rfl) rfl (by show 2 * 0 + _ ≤ _; exact Nat.le_of_eq rfl) (hb hby at_255) (fun _ _ => ⟨rfl, K1670, (by decide : 12 + 0 ≤ _), (by decide : 61 + 0 ≤ _)⟩)
     dsimp only [Pt.U, Pt.locs, Pt.cells, Pt.slots] at X1672 l1672 y1672 z1672 st1672 hQ1672
     subst l1672 y1672 z1672
     obtain ⟨rfl, NQ1672, K1672⟩ := hQ1672
     have N1673 := Fr.app N1671 NQ1672
     refine Rch.st (fun _ k => st1672 _ k) ?_
     show Rch p e below T1672 (mkF m 258 #[.val (.int sp), .val (.int qc), .val (.int mc), .val (.int lb), .val (.int lq), .val (.int 1), .val (.int 2), .val (.ref a831), .val (.ref a854), .val (.ref ra_1326), .val (.ref ra_1563), .val (.ref a1585), .val (.ref ra_1628), .val (.int 4)] [(.int 1)]) _
     refine w_ifNo (pc' := 261) X1672 hx hby at_258 (XT.i0_eq_f (by decide)) rfl ?_
     refine w_aload (pc' := 263) X1672 hx hby at_261 rfl rfl rfl ?_
     refine w_iconst (pc' := 264) (v := 4) X1672 hx hby at_263 rfl rfl ?_
     refine w_iload (pc' := 266) X1672 hx hby at_264 rfl rfl ?_
     refine w_iload (pc' := 268) X1672 hx hby at_266 rfl rfl ?_
     refine w_iload (pc' := 270) X1672 hx hby at_268 rfl rfl ?_
     refine w_aload (pc' := 272) X1672 hx hby at_270 rfl rfl rfl ?_
     refine w_aload (pc' := 274) X1672 hx hby at_272 rfl rfl rfl ?_
     obtain ⟨_, _, ⟨T1674, L1674, k1674, n1674⟩, -, X1674, ⟨Lc1674, hQ1674, l1674, y1674, z1674⟩, st1674⟩ := Jvm.LawKit.callS X1672 hx (y := (⟨"com/example/alcance/alcance/IdentifiersQuotedPinLaw", "ok", "(Ljava/lang/String;IIII[C[C)Z"⟩ : MethodName)) hown (mvT hZ (wi hw 154 rfl)) (mvT hZ (wi hw 155 rfl)) (mvT hZ (wi hw 3 rfl)) (mvT hZ (wi hw 156 rfl)) (by decide) (backOf (W := 0) (rm_ok_far l Z a0 hw [] ra_1628 4 4 1 2 a831 a854 T1628.heap h0.size Z1660 (by decide)) hZ (wi hw 156 rfl) (wi hw 3 rfl) (by decide) (by decide)) (g := (mkF m 274 #[.val (.int sp), .val (.int qc), .val (.int mc), .val (.int lb), .val (.int lq), .val (.int 1), .val (.int 2), .val (.ref a831), .val (.ref a854), .val (.ref ra_1326), .val (.ref ra_1563), .val (.ref a1585), .val (.ref ra_1628), .val (.int 4)] [(.ref a854), (.ref a831), (.int 2), (.int 1), (.int 4), (.int 4), (.ref ra_1628)])) rfl (by rw [hml]; rfl) (argsL := [(.ref ra_1628), (.int 4), (.int 4), (.int 1), (.int 2), (.ref a831), (.ref a854)]) (rest := []) (lenOf pd__Ljava_lang_String_IIII_C_C_Z rfl) rfl (by show 2 * 0 + _ ≤ _; exact Nat.le_of_eq rfl) (hb hby at_274) (fun _ _ => ⟨rfl, K1672, (by decide : 12 + 0 ≤ _), (by decide : 61 + 0 ≤ _)⟩)
     dsimp only [Pt.U, Pt.locs, Pt.cells, Pt.slots] at X1674 l1674 y1674 z1674 st1674 hQ1674
     subst l1674 y1674 z1674
     obtain ⟨rfl, NQ1674, K1674⟩ := hQ1674
     have N1675 := Fr.app N1673 NQ1674
     refine Rch.st (fun _ k => st1674 _ k) ?_
     show Rch p e below T1674 (mkF m 277 #[.val (.int sp), .val (.int qc), .val (.int mc), .val (.int lb), .val (.int lq), .val (.int 1), .val (.int 2), .val (.ref a831), .val (.ref a854), .val (.ref ra_1326), .val (.ref ra_1563), .val (.ref a1585), .val (.ref ra_1628), .val (.int 4)] [(.int 1)]) _
     refine w_ifNo (pc' := 280) X1674 hx hby at_277 (XT.i0_eq_f (by decide)) rfl ?_
     refine w_aload (pc' := 282) X1674 hx hby at_280 rfl rfl rfl ?_
     refine w_iconst (pc' := 283) (v := 5) X1674 hx hby at_282 rfl rfl ?_
     refine w_iload (pc' := 285) X1674 hx hby at_283 rfl rfl ?_
     refine w_iload (pc' := 287) X1674 hx hby at_285 rfl rfl ?_
     refine w_iload (pc' := 289) X1674 hx hby at_287 rfl rfl ?_
     refine w_aload (pc' := 291) X1674 hx hby at_289 rfl rfl rfl ?_
     refine w_aload (pc' := 293) X1674 hx hby at_291 rfl rfl rfl ?_
     obtain ⟨_, _, ⟨T1676, L1676, k1676, n1676⟩, -, X1676, ⟨Lc1676, hQ1676, l1676, y1676, z1676⟩, st1676⟩ := Jvm.LawKit.callS X1674 hx (y := (⟨"com/example/alcance/alcance/IdentifiersQuotedPinLaw", "ok", "(Ljava/lang/String;IIII[C[C)Z"⟩ : MethodName)) hown (mvT hZ (wi hw 154 rfl)) (mvT hZ (wi hw 155 rfl)) (mvT hZ (wi hw 3 rfl)) (mvT hZ (wi hw 156 rfl)) (by decide) (backOf (W := 0) (rm_ok_far l Z a0 hw [] ra_1628 5 4 1 2 a831 a854 T1628.heap h0.size Z1660 (by decide)) hZ (wi hw 156 rfl) (wi hw 3 rfl) (by decide) (by decide)) (g := (mkF m 293 #[.val (.int sp), .val (.int qc), .val (.int mc), .val (.int lb), .val (.int lq), .val (.int 1), .val (.int 2), .val (.ref a831), .val (.ref a854), .val (.ref ra_1326), .val (.ref ra_1563), .val (.ref a1585), .val (.ref ra_1628), .val (.int 4)] [(.ref a854), (.ref a831), (.int 2), (.int 1), (.int 4), (.int 5), (.ref ra_1628)])) rfl (by rw [hml]; rfl) (argsL := [(.ref ra_1628), (.int 5), (.int 4), (.int 1), (.int 2), (.ref a831), (.ref a854)]) (rest := []) (lenOf pd__Ljava_lang_String_IIII_C_C_Z rfl) rfl (by show 2 * 0 + _ ≤ _; exact Nat.le_of_eq rfl) (hb hby at_293) (fun _ _ => ⟨rfl, K1674, (by decide : 12 + 0 ≤ _), (by decide : 61 + 0 ≤ _)⟩)
     dsimp only [Pt.U, Pt.locs, Pt.cells, Pt.slots] at X1676 l1676 y1676 z1676 st1676 hQ1676
     subst l1676 y1676 z1676
     obtain ⟨rfl, NQ1676, K1676⟩ := hQ1676
     have N1677 := Fr.app N1675 NQ1676
     refine Rch.st (fun _ k => st1676 _ k) ?_
     show Rch p e below T1676 (mkF m 296 #[.val (.int sp), .val (.int qc), .val (.int mc), .val (.int lb), .val (.int lq), .val (.int 1), .val (.int 2), .val (.ref a831), .val (.ref a854), .val (.ref ra_1326), .val (.ref ra_1563), .val (.ref a1585), .val (.ref ra_1628), .val (.int 4)] [(.int 1)]) _
     refine w_ifNo (pc' := 299) X1676 hx hby at_296 (XT.i0_eq_f (by decide)) rfl ?_
     refine w_aload (pc' := 301) X1676 hx hby at_299 rfl rfl rfl ?_
     refine w_bipush (pc' := 303) (v := 6) X1676 hx hby at_301 rfl rfl ?_
     refine w_iload (pc' := 305) X1676 hx hby at_303 rfl rfl ?_
     refine w_iload (pc' := 307) X1676 hx hby at_305 rfl rfl ?_
     refine w_iload (pc' := 309) X1676 hx hby at_307 rfl rfl ?_
     refine w_aload (pc' := 311) X1676 hx hby at_309 rfl rfl rfl ?_
     refine w_aload (pc' := 313) X1676 hx hby at_311 rfl rfl rfl ?_
     obtain ⟨_, _, ⟨T1678, L1678, k1678, n1678⟩, -, X1678, ⟨Lc1678, hQ1678, l1678, y1678, z1678⟩, st1678⟩ := Jvm.LawKit.callS X1676 hx (y := (⟨"com/example/alcance/alcance/IdentifiersQuotedPinLaw", "ok", "(Ljava/lang/String;IIII[C[C)Z"⟩ : MethodName)) hown (mvT hZ (wi hw 154 rfl)) (mvT hZ (wi hw 155 rfl)) (mvT hZ (wi hw 3 rfl)) (mvT hZ (wi hw 156 rfl)) (by decide) (backOf (W := 0) (rm_ok_far l Z a0 hw [] ra_1628 6 4 1 2 a831 a854 T1628.heap h0.size Z1660 (by decide)) hZ (wi hw 156 rfl) (wi hw 3 rfl) (by decide) (by decide)) (g := (mkF m 313 #[.val (.int sp), .val (.int qc), .val (.int mc), .val (.int lb), .val (.int lq), .val (.int 1), .val (.int 2), .val (.ref a831), .val (.ref a854), .val (.ref ra_1326), .val (.ref ra_1563), .val (.ref a1585), .val (.ref ra_1628), .val (.int 4)] [(.ref a854), (.ref a831), (.int 2), (.int 1), (.int 4), (.int 6), (.ref ra_1628)])) rfl (by rw [hml]; rfl) (argsL := [(.ref ra_1628), (.int 6), (.int 4), (.int 1), (.int 2), (.ref a831), (.ref a854)]) (rest := []) (lenOf pd__Ljava_lang_String_IIII_C_C_Z rfl) rfl (by show 2 * 0 + _ ≤ _; exact Nat.le_of_eq rfl) (hb hby at_313) (fun _ _ => ⟨rfl, K1676, (by decide : 12 + 0 ≤ _), (by decide : 61 + 0 ≤ _)⟩)
     dsimp only [Pt.U, Pt.locs, Pt.cells, Pt.slots] at X1678 l1678 y1678 z1678 st1678 hQ1678
     subst l1678 y1678 z1678
     obtain ⟨rfl, NQ1678, K1678⟩ := hQ1678
     have N1679 := Fr.app N1677 NQ1678
     refine Rch.st (fun _ k => st1678 _ k) ?_
     show Rch p e below T1678 (mkF m 316 #[.val (.int sp), .val (.int qc), .val (.int mc), .val (.int lb), .val (.int lq), .val (.int 1), .val (.int 2), .val (.ref a831), .val (.ref a854), .val (.ref ra_1326), .val (.ref ra_1563), .val (.ref a1585), .val (.ref ra_1628), .val (.int 4)] [(.int 1)]) _
     refine w_ifNo (pc' := 319) X1678 hx hby at_316 (XT.i0_eq_f (by decide)) rfl ?_
     refine w_iconst (pc' := 320) (v := 1) X1678 hx hby at_319 rfl rfl ?_
     refine w_goto (pc' := 324) X1678 hx hby at_320 (by decide) ?_
     exact Rch.retVW X1678 hx hS0 (by rw [K1678]; exact hk1661) Bd.returns rfl (Or.inl ⟨rfl, by simp, _, rfl⟩) (hb hby at_324) (by rw [K1678]; exact ⟨rfl, (own_Fr Z0 N1679), Kp1659, own_ib_mono (own_ib (s := s.setVm s.vm) hI X1678.warmed) (by decide)⟩) (by decide) (by decide)
    ·skip
     show Rch p e below T1326 (mkF m 129 #[.val (.int sp), .val (.int qc), .val (.int mc), .val (.int lb), .val (.int lq), .val (.int 1), .val (.int 3), .val (.ref a831), .val (.ref a854), .val (.ref ra_1326), .unset, .unset, .unset, .unset] [(.int 0), (.ref a854), (.ref a831), (.int 3)]) _
     obtain ⟨_, _, ⟨T1680, L1680, k1680, n1680⟩, -, X1680, ⟨Lc1680, hQ1680, l1680, y1680, z1680⟩, st1680⟩ := Jvm.LawKit.callS X1326 hx (y := (⟨"com/example/alcance/alcance/IdentifiersQuotedPinLaw", "make", "(I[C[CZ)Ljava/lang/String;"⟩ : MethodName)) hown (mvT hZ (wi hw 1 rfl)) (mvT hZ (wi hw 2 rfl)) (mvT hZ (wi hw 3 rfl)) (mvT hZ (wi hw 4 rfl)) (by decide) (backOf (W := 0) (rm_mk_0_3 l Z a0 hw [] G1 a831 a854 kc854 na nb nc T1326.heap h0.size Z1338 (O2) (P5) f1335 (ch_na) (ch_nb) (ch_nc) Old1336) hZ (wi hw 4 rfl) (wi hw 3 rfl) (by decide) (by decide)) (g := (mkF m 129 #[.val (.int sp), .val (.int qc), .val (.int mc), .val (.int lb), .val (.int lq), .val (.int 1), .val (.int 3), .val (.ref a831), .val (.ref a854), .val (.ref ra_1326), .unset, .unset, .unset, .unset] [(.int 0), (.ref a854), (.ref a831), (.int 3)])) rfl (by rw [hml]; rfl) (argsL := [(.int 3), (.ref a831), (.ref a854), (.int 0)]) (rest := []) (lenOf pd__I_C_CZ_Ljava_lang_String_ rfl) rfl (by show 2 * 0 + _ ≤ _; exact Nat.le_of_eq rfl) (hb hby at_129) (fun _ _ => ⟨rfl, (rfl : T1326.heap = T1326.heap), (by decide : 4 + 3 ≤ _), (by decide : 10 + 10 ≤ _)⟩)
     dsimp only [Pt.U, Pt.locs, Pt.cells, Pt.slots] at X1680 l1680 y1680 z1680 st1680 hQ1680
     subst l1680 y1680 z1680
     obtain ⟨ra_1680, t_1680, kt_1680, rfl, NQ1680, K1680, pq1680_0, pq1680_1, fq1680_0, fq1680_1, fq1680_2, fq1680_3⟩ := hQ1680
     have N1681 := Fr.app N1327 NQ1680
     have f1692 := f1334.keep K1680 nin0
     have f1693 := f1335.keep K1680 nin0
     have f1694 := fq1326_0.keep K1680
     have f1695 := fq1326_1.keep K1680 nin0
     have f1696 := fq1326_2.keep K1680 nin0
     have f1697 := fq1326_3.keep K1680 nin0
     have Old1698 := Old1336.keep K1680 all0
     have Kp1699 : Keep h0 T1680.heap [] := Kp1337.trans K1680 all0
     have Z1700 := Nat.le_trans Z1338 K1680.1
     have hk1701 := Nat.le_trans hk1339 K1680.1
     refine Rch.st (fun _ k => st1680 _ k) ?_
     show Rch p e below T1680 (mkF m 132 #[.val (.int sp), .val (.int qc), .val (.int mc), .val (.int lb), .val (.int lq), .val (.int 1), .val (.int 3), .val (.ref a831), .val (.ref a854), .val (.ref ra_1326), .unset, .unset, .unset, .unset] [(.ref ra_1680)]) _
     refine w_astore (pc' := 134) (l' := #[.val (.int sp), .val (.int qc), .val (.int mc), .val (.int lb), .val (.int lq), .val (.int 1), .val (.int 3), .val (.ref a831), .val (.ref a854), .val (.ref ra_1326), .val (.ref ra_1680), .unset, .unset, .unset]) X1680 hx hby at_132 rfl rfl rfl ?_
     obtain ⟨T1702, h1702, X1702, e1702, E1702, A1702, D1702, -, st1702⟩ := newO X1680 hx hZ hown (wi hw 13 rfl) (wi hw 14 rfl) (wi hw 15 rfl) (rfl : T1680.heap = T1680.heap) (g := (mkF m 134 #[.val (.int sp), .val (.int qc), .val (.int mc), .val (.int lb), .val (.int lq), .val (.int 1), .val (.int 3), .val (.ref a831), .val (.ref a854), .val (.ref ra_1326), .val (.ref ra_1680), .unset, .unset, .unset] [])) rfl (hb hby at_134) (by decide) (by decide)
     obtain ⟨a1702, g1702⟩ : ∃ z, z = T1680.heap.size := ⟨_, rfl⟩
     rw [← g1702] at A1702 D1702 st1702
     have ne1703 : a831 ≠ a1702 := by rw [g1702]; exact Nat.ne_of_lt f1692.lt
     have ne1704 : a854 ≠ a1702 := by rw [g1702]; exact Nat.ne_of_lt f1693.lt
     have ne1705 : ra_1326 ≠ a1702 := by rw [g1702]; exact Nat.ne_of_lt f1694.lt
     have ne1706 : ra_1680 ≠ a1702 := by rw [g1702]; exact Nat.ne_of_lt fq1680_0.lt
     have ne1707 : t_1326 ≠ a1702 := by rw [g1702]; exact Nat.ne_of_lt f1697.lt
     have ne1708 : t_1680 ≠ a1702 := by rw [g1702]; exact Nat.ne_of_lt fq1680_3.lt
     have ge1709 : h0.size ≤ a1702 := Nat.le_trans Z1700 (Nat.le_of_eq g1702.symm)
     have hk1711 := Nat.le_trans hk1701 E1702.1
     have f1712 := f1692.ext E1702
     have f1713 := f1693.ext E1702
     have f1714 := f1694.ext E1702
     have f1715 := f1695.ext E1702
     have f1716 := f1696.ext E1702
     have f1717 := f1697.ext E1702
     have f1718 := fq1680_0.ext E1702
     have f1719 := fq1680_1.ext E1702
     have f1720 := fq1680_2.ext E1702
     have f1721 := fq1680_3.ext E1702
     have Old1722 := Old1698.ext E1702
     have Z1723 := Nat.le_trans Z1700 E1702.1
     have Kp1724 : Keep h0 h1702 [] := Kp1699.ext E1702
     have f1725 : Fld Z h1702 a1702 "com/example/alcance/alcance/Identifiers" "lowersBare" "Z" (.int (0 : Int32)) := D1702 (Or.inr (wi hw 28 rfl)) (ty := .boolean) (by decide)
     have f1726 : Fld Z h1702 a1702 "com/example/alcance/alcance/Identifiers" "lowersQuoted" "Z" (.int (0 : Int32)) := D1702 (Or.inr (wi hw 30 rfl)) (ty := .boolean) (by decide)
     have f1727 : Fld Z h1702 a1702 "com/example/alcance/alcance/Identifiers" "quote" "Ljava/lang/String;" .null := D1702 (Or.inr (wi hw 32 rfl)) (ty := (.object "java/lang/String")) (by decide)
     refine Rch.st (fun _ k => st1702 _ k) ?_
     show Rch p e below T1702 (mkF m 137 #[.val (.int sp), .val (.int qc), .val (.int mc), .val (.int lb), .val (.int lq), .val (.int 1), .val (.int 3), .val (.ref a831), .val (.ref a854), .val (.ref ra_1326), .val (.ref ra_1680), .unset, .unset, .unset] [(.ref a1702)]) _
     refine w_dup (pc' := 138) X1702 hx hby at_137 rfl rfl ?_
     refine w_iloadN (pc' := 139) X1702 hx hby at_138 rfl rfl ?_
     refine w_iload (pc' := 141) X1702 hx hby at_139 rfl rfl ?_
     refine w_aload (pc' := 143) X1702 hx hby at_141 rfl rfl rfl ?_
     obtain ⟨_, _, ⟨T1728, L1728, k1728, n1728⟩, -, X1728, ⟨Lc1728, hQ1728, l1728, y1728, z1728⟩, st1728⟩ := X1702.specialBack hx (y := (⟨"com/example/alcance/alcance/Identifiers", "<init>", "(ZZLjava/lang/String;)V"⟩ : MethodName)) rfl hown (mvT hZ (wi hw 16 rfl)) (mvT hZ (wi hw 17 rfl)) (mvT hZ (wi hw 18 rfl)) (by decide) (backOf (W := 1) (rm_id l Z a0 hw [] a1702 lb lq ra_1326 h1702 h0.size Z1723 A1702 f1725 f1726 f1727 (ge1709) (hlb) (hlq)) hZ (wi hw 18 rfl) (wi hw 15 rfl) (by decide) (by decide)) (g := (mkF m 143 #[.val (.int sp), .val (.int qc), .val (.int mc), .val (.int lb), .val (.int lq), .val (.int 1), .val (.int 3), .val (.ref a831), .val (.ref a854), .val (.ref ra_1326), .val (.ref ra_1680), .unset, .unset, .unset] [(.ref ra_1326), (.int lq), (.int lb), (.ref a1702), (.ref a1702)])) rfl (by rw [hml]; rfl) (Steps.refl _) (a := a1702) (argsL := [(.int lb), (.int lq), (.ref ra_1326)]) (rest := [(.ref a1702)]) (lenOf pd__ZZLjava_lang_String__V rfl) rfl (by show 2 * 0 + _ ≤ _; exact Nat.le_of_eq rfl) (hb hby at_143) (fun _ _ => ⟨rfl, e1702, (by decide : 8 + 0 ≤ _), (by decide : 23 + 0 ≤ _)⟩)
     dsimp only [Pt.U, Pt.locs, Pt.cells, Pt.slots] at X1728 l1728 y1728 z1728 st1728 hQ1728
     subst l1728 y1728 z1728
     obtain ⟨rfl, NQ1728, K1728, fq1728_0⟩ := hQ1728
     have N1729 := Fr.app N1681 NQ1728
     have f1730 := f1712.keep K1728 (ninS ne1703 nin0)
     have f1731 := f1713.keep K1728 (ninS ne1704 nin0)
     have f1732 := f1714.keep K1728
     have f1733 := f1715.keep K1728 (ninS ne1705 nin0)
     have f1734 := f1716.keep K1728 (ninS ne1705 nin0)
     have f1735 := f1717.keep K1728 (ninS ne1707 nin0)
     have f1736 := f1718.keep K1728
     have f1737 := f1719.keep K1728 (ninS ne1706 nin0)
     have f1738 := f1720.keep K1728 (ninS ne1706 nin0)
     have f1739 := f1721.keep K1728 (ninS ne1708 nin0)
     have f1740 := A1702.keep K1728
     have Old1741 := Old1722.keep K1728 (allS ge1709 all0)
     have Kp1742 : Keep h0 T1728.heap [] := Kp1724.trans K1728 (allS (Or.inr (Nat.le_trans Kp1699.1 (Nat.le_of_eq g1702.symm))) all0)
     have Z1743 := Nat.le_trans Z1723 K1728.1
     have hk1744 := Nat.le_trans hk1711 K1728.1
     refine Rch.st (fun _ k => st1728.trans k) ?_
     show Rch p e below T1728 (mkF m 146 #[.val (.int sp), .val (.int qc), .val (.int mc), .val (.int lb), .val (.int lq), .val (.int 1), .val (.int 3), .val (.ref a831), .val (.ref a854), .val (.ref ra_1326), .val (.ref ra_1680), .unset, .unset, .unset] [(.ref a1702)]) _
     refine w_astore (pc' := 148) (l' := #[.val (.int sp), .val (.int qc), .val (.int mc), .val (.int lb), .val (.int lq), .val (.int 1), .val (.int 3), .val (.ref a831), .val (.ref a854), .val (.ref ra_1326), .val (.ref ra_1680), .val (.ref a1702), .unset, .unset]) X1728 hx hby at_146 rfl rfl rfl ?_
     refine w_aload (pc' := 150) X1728 hx hby at_148 rfl rfl rfl ?_
     refine w_aload (pc' := 152) X1728 hx hby at_150 rfl rfl rfl ?_
     obtain ⟨cq1745, kq1745, q1745a, q1745b, q1745c⟩ := isOf hZ (rfl : T1728.heap = T1728.heap) f1740
     obtain ⟨_, _, ⟨T1745, L1745, k1745, n1745⟩, -, X1745, ⟨Lc1745, hQ1745, l1745, y1745, z1745⟩, st1745⟩ := X1728.virtualBack hx (y := (⟨"com/example/alcance/alcance/Identifiers", "quoted", "(Ljava/lang/String;)Ljava/lang/String;"⟩ : MethodName)) (z := (⟨"com/example/alcance/alcance/Identifiers", "quoted", "(Ljava/lang/String;)Ljava/lang/String;"⟩ : MethodName)) hown (mvT hZ (wi hw 33 rfl)) (mvT hZ (wi hw 34 rfl)) (notFace_of_selects (args := #[]) (mvT hZ (wi hw 36 rfl))) (mvT hZ (wi hw 36 rfl)) (mvT hZ (wi hw 35 rfl)) (by decide) (backOf (W := 0) (rm_qu l Z a0 hw [] G1 a1702 ra_1326 t_1326 kt_1326 1 ([(.int (own_by qa))]) (.int 0) ra_1680 t_1680 kt_1680 3 ([(.int (own_by na)), (.int (own_by nb)), (.int (own_by nc))]) (.int 0) T1728.heap h0.size Z1743 (O2) (P5) fq1728_0 f1732 f1733 f1734 f1735 f1736 f1737 f1738 f1739 (by decide) (by decide) (by decide) (by decide) (by decide) (by decide) (by decide) (by decide) (by decide) (by decide) (by decide) (by decide) (by decide) (by decide) Old1741) hZ (wi hw 37 rfl) (wi hw 15 rfl) (by decide) (by decide)) q1745a q1745c (g := (mkF m 152 #[.val (.int sp), .val (.int qc), .val (.int mc), .val (.int lb), .val (.int lq), .val (.int 1), .val (.int 3), .val (.ref a831), .val (.ref a854), .val (.ref ra_1326), .val (.ref ra_1680), .val (.ref a1702), .unset, .unset] [(.ref ra_1680), (.ref a1702)])) rfl (by rw [hml]; rfl) (Steps.refl _) (argsL := [(.ref ra_1680)]) (rest := []) (lenOf pd__Ljava_lang_String__Ljava_lang_String_ rfl) rfl (by show 2 * 0 + _ ≤ _; exact Nat.le_of_eq rfl) (hb hby at_152) (fun _ _ => ⟨rfl, (rfl : T1728.heap = T1728.heap), (by decide : 8 + 4 ≤ _), (by decide : 23 + 40 ≤ _)⟩)
     dsimp only [Pt.U, Pt.locs, Pt.cells, Pt.slots] at X1745 l1745 y1745 z1745 st1745 hQ1745
     subst l1745 y1745 z1745
     obtain ⟨ra_1745, t_1745, kt_1745, rfl, NQ1745, K1745, pq1745_0, pq1745_1, fq1745_0, fq1745_1, fq1745_2, fq1745_3⟩ := hQ1745
     have N1746 := Fr.app N1729 NQ1745
     have f1763 := f1730.keep K1745 nin0
     have f1764 := f1731.keep K1745 nin0
     have Old1775 := Old1741.keep K1745 all0
     have Kp1776 : Keep h0 T1745.heap [] := Kp1742.trans K1745 all0
     have Z1777 := Nat.le_trans Z1743 K1745.1
     have hk1778 := Nat.le_trans hk1744 K1745.1
     refine Rch.st (fun _ k => st1745.trans k) ?_
     show Rch p e below T1745 (mkF m 155 #[.val (.int sp), .val (.int qc), .val (.int mc), .val (.int lb), .val (.int lq), .val (.int 1), .val (.int 3), .val (.ref a831), .val (.ref a854), .val (.ref ra_1326), .val (.ref ra_1680), .val (.ref a1702), .unset, .unset] [(.ref ra_1745)]) _
     have f1779 : Arv Z T1745.heap t_1745 kt_1745 .byte (5 : Int32) [(.int (own_by qa)), (.int (own_by na)), (.int (own_by nb)), (.int (own_by nc)), (.int (own_by qa))] (.int (0 : Int32)) := by have z := fq1745_3; rw [show ((((0 : Int32) + (1 : Int32)) + (3 : Int32)) + (1 : Int32)) = (5 : Int32) from by decide, own_cat, own_t1, own_t3] at z; exact z
     refine w_astore (pc' := 157) (l' := #[.val (.int sp), .val (.int qc), .val (.int mc), .val (.int lb), .val (.int lq), .val (.int 1), .val (.int 3), .val (.ref a831), .val (.ref a854), .val (.ref ra_1326), .val (.ref ra_1680), .val (.ref a1702), .val (.ref ra_1745), .unset]) X1745 hx hby at_155 rfl rfl rfl ?_
     refine w_aload (pc' := 159) X1745 hx hby at_157 rfl rfl rfl ?_
     refine w_nonnullYes (pc' := 164) X1745 hx hby at_159 rfl (fun q => nomatch q) (by decide) ?_
     refine w_iconst (pc' := 165) (v := 2) X1745 hx hby at_164 rfl rfl ?_
     refine w_iload (pc' := 167) X1745 hx hby at_165 rfl rfl ?_
     refine w_imul (pc' := 168) X1745 hx hby at_167 rfl ?_
     refine w_iload (pc' := 170) X1745 hx hby at_168 rfl rfl ?_
     refine w_iadd (pc' := 171) X1745 hx hby at_170 rfl ?_
     have r1780 : (((2 : Int32) * (1 : Int32)) + (3 : Int32)) = (5 : Int32) := by decide
     rw [r1780]
     show Rch p e below T1745 (mkF m 171 #[.val (.int sp), .val (.int qc), .val (.int mc), .val (.int lb), .val (.int lq), .val (.int 1), .val (.int 3), .val (.ref a831), .val (.ref a854), .val (.ref ra_1326), .val (.ref ra_1680), .val (.ref a1702), .val (.ref ra_1745), .unset] [(.int 5)]) _
     refine w_istore (pc' := 173) (l' := #[.val (.int sp), .val (.int qc), .val (.int mc), .val (.int lb), .val (.int lq), .val (.int 1), .val (.int 3), .val (.ref a831), .val (.ref a854), .val (.ref ra_1326), .val (.ref ra_1680), .val (.ref a1702), .val (.ref ra_1745), .val (.int 5)]) X1745 hx hby at_171 rfl rfl ?_
     refine w_aload (pc' := 175) X1745 hx hby at_173 rfl rfl rfl ?_
     obtain ⟨cq1781, kq1781, q1781a, q1781b, q1781c⟩ := isOf hZ (rfl : T1745.heap = T1745.heap) fq1745_0
     obtain ⟨_, _, ⟨T1781, L1781, k1781, n1781⟩, -, X1781, ⟨Lc1781, hQ1781, l1781, y1781, z1781⟩, st1781⟩ := X1745.virtualBack hx (y := (⟨"java/lang/String", "length", "()I"⟩ : MethodName)) (z := (⟨"java/lang/String", "length", "()I"⟩ : MethodName)) hown (mvT hZ (wi hw 153 rfl)) (mvT hZ (wi hw 67 rfl)) (notFace_of_selects (args := #[]) (mvT hZ (wi hw 69 rfl))) (mvT hZ (wi hw 69 rfl)) (mvT hZ (wi hw 68 rfl)) (by decide) (backOf (W := 0) (rm_length l Z a0 hw [] G1 ra_1745 0 t_1745 kt_1745 5 ([(.int (own_by qa)), (.int (own_by na)), (.int (own_by nb)), (.int (own_by nc)), (.int (own_by qa))]) (.int 0) T1745.heap h0.size Z1777 (O2) (P5) fq1745_1 (Or.inl rfl) fq1745_2 f1779 fq1745_0 Old1775) hZ (wi hw 70 rfl) (wi hw 6 rfl) (by decide) (by decide)) q1781a q1781c (g := (mkF m 175 #[.val (.int sp), .val (.int qc), .val (.int mc), .val (.int lb), .val (.int lq), .val (.int 1), .val (.int 3), .val (.ref a831), .val (.ref a854), .val (.ref ra_1326), .val (.ref ra_1680), .val (.ref a1702), .val (.ref ra_1745), .val (.int 5)] [(.ref ra_1745)])) rfl (by rw [hml]; rfl) (Steps.refl _) (argsL := []) (rest := []) (lenOf pd___I rfl) rfl (by show 2 * 0 + _ ≤ _; exact Nat.le_of_eq rfl) (hb hby at_175) (fun _ _ => ⟨rfl, (rfl : T1745.heap = T1745.heap), (by decide : 12 + 0 ≤ _), (by decide : 63 + 0 ≤ _)⟩)
     dsimp only [Pt.U, Pt.locs, Pt.cells, Pt.slots] at X1781 l1781 y1781 z1781 st1781 hQ1781
     subst l1781 y1781 z1781
     obtain ⟨rfl, NQ1781, K1781⟩ := hQ1781
     have N1782 := Fr.app N1746 NQ1781
     refine Rch.st (fun _ k => st1781.trans k) ?_
     show Rch p e below T1781 (mkF m 178 #[.val (.int sp), .val (.int qc), .val (.int mc), .val (.int lb), .val (.int lq), .val (.int 1), .val (.int 3), .val (.ref a831), .val (.ref a854), .val (.ref ra_1326), .val (.ref ra_1680), .val (.ref a1702), .val (.ref ra_1745), .val (.int 5)] [(.int ((5 : Int32) >>> ((0 : Int32) &&& 31)))]) _
     refine w_iload (pc' := 180) X1781 hx hby at_178 rfl rfl ?_
     refine w_icmpYes (pc' := 185) X1781 hx hby at_180 (XT.ii_eq_t (by decide)) (by decide) ?_
     refine w_aload (pc' := 187) X1781 hx hby at_185 rfl rfl rfl ?_
     refine w_iconst (pc' := 188) (v := 0) X1781 hx hby at_187 rfl rfl ?_
     refine w_iload (pc' := 190) X1781 hx hby at_188 rfl rfl ?_
     refine w_iload (pc' := 192) X1781 hx hby at_190 rfl rfl ?_
     refine w_iload (pc' := 194) X1781 hx hby at_192 rfl rfl ?_
     refine w_aload (pc' := 196) X1781 hx hby at_194 rfl rfl rfl ?_
     refine w_aload (pc' := 198) X1781 hx hby at_196 rfl rfl rfl ?_
     obtain ⟨_, _, ⟨T1783, L1783, k1783, n1783⟩, -, X1783, ⟨Lc1783, hQ1783, l1783, y1783, z1783⟩, st1783⟩ := Jvm.LawKit.callS X1781 hx (y := (⟨"com/example/alcance/alcance/IdentifiersQuotedPinLaw", "ok", "(Ljava/lang/String;IIII[C[C)Z"⟩ : MethodName)) hown (mvT hZ (wi hw 154 rfl)) (mvT hZ (wi hw 155 rfl)) (mvT hZ (wi hw 3 rfl)) (mvT hZ (wi hw 156 rfl)) (by decide) (backOf (W := 0) (rm_ok_A l Z a0 hw [] G1 G3 ra_1745 t_1745 kt_1745 5 ([(.int (own_by qa)), (.int (own_by na)), (.int (own_by nb)), (.int (own_by nc)), (.int (own_by qa))]) (.int 0) 0 1 3 a831 kc831 ([(.int qa), (.int qb)]) (.int 0) a854 kc854 ([(.int na), (.int nb), (.int nc)]) (.int 0) qa 5 T1745.heap h0.size Z1777 (O2) (P5) (O4) (rG3) fq1745_0 fq1745_1 fq1745_2 f1779 f1763 f1764 (by decide) (⟨by decide, by decide⟩) (by rfl) (ch_qa) (by decide) (by decide) (by decide) (by rfl) Old1775) hZ (wi hw 156 rfl) (wi hw 3 rfl) (by decide) (by decide)) (g := (mkF m 198 #[.val (.int sp), .val (.int qc), .val (.int mc), .val (.int lb), .val (.int lq), .val (.int 1), .val (.int 3), .val (.ref a831), .val (.ref a854), .val (.ref ra_1326), .val (.ref ra_1680), .val (.ref a1702), .val (.ref ra_1745), .val (.int 5)] [(.ref a854), (.ref a831), (.int 3), (.int 1), (.int 5), (.int 0), (.ref ra_1745)])) rfl (by rw [hml]; rfl) (argsL := [(.ref ra_1745), (.int 0), (.int 5), (.int 1), (.int 3), (.ref a831), (.ref a854)]) (rest := []) (lenOf pd__Ljava_lang_String_IIII_C_C_Z rfl) rfl (by show 2 * 0 + _ ≤ _; exact Nat.le_of_eq rfl) (hb hby at_198) (fun _ _ => ⟨rfl, K1781, (by decide : 12 + 0 ≤ _), (by decide : 63 + 0 ≤ _)⟩)
     dsimp only [Pt.U, Pt.locs, Pt.cells, Pt.slots] at X1783 l1783 y1783 z1783 st1783 hQ1783
     subst l1783 y1783 z1783
     obtain ⟨rfl, NQ1783, K1783⟩ := hQ1783
     have N1784 := Fr.app N1782 NQ1783
     refine Rch.st (fun _ k => st1783 _ k) ?_
     show Rch p e below T1783 (mkF m 201 #[.val (.int sp), .val (.int qc), .val (.int mc), .val (.int lb), .val (.int lq), .val (.int 1), .val (.int 3), .val (.ref a831), .val (.ref a854), .val (.ref ra_1326), .val (.ref ra_1680), .val (.ref a1702), .val (.ref ra_1745), .val (.int 5)] [(.int 1)]) _
     refine w_ifNo (pc' := 204) X1783 hx hby at_201 (XT.i0_eq_f (by decide)) rfl ?_
     refine w_aload (pc' := 206) X1783 hx hby at_204 rfl rfl rfl ?_
     refine w_iconst (pc' := 207) (v := 1) X1783 hx hby at_206 rfl rfl ?_
     refine w_iload (pc' := 209) X1783 hx hby at_207 rfl rfl ?_
     refine w_iload (pc' := 211) X1783 hx hby at_209 rfl rfl ?_
     refine w_iload (pc' := 213) X1783 hx hby at_211 rfl rfl ?_
     refine w_aload (pc' := 215) X1783 hx hby at_213 rfl rfl rfl ?_
     refine w_aload (pc' := 217) X1783 hx hby at_215 rfl rfl rfl ?_
     obtain ⟨_, _, ⟨T1785, L1785, k1785, n1785⟩, -, X1785, ⟨Lc1785, hQ1785, l1785, y1785, z1785⟩, st1785⟩ := Jvm.LawKit.callS X1783 hx (y := (⟨"com/example/alcance/alcance/IdentifiersQuotedPinLaw", "ok", "(Ljava/lang/String;IIII[C[C)Z"⟩ : MethodName)) hown (mvT hZ (wi hw 154 rfl)) (mvT hZ (wi hw 155 rfl)) (mvT hZ (wi hw 3 rfl)) (mvT hZ (wi hw 156 rfl)) (by decide) (backOf (W := 0) (rm_ok_B l Z a0 hw [] G1 G3 ra_1745 t_1745 kt_1745 5 ([(.int (own_by qa)), (.int (own_by na)), (.int (own_by nb)), (.int (own_by nc)), (.int (own_by qa))]) (.int 0) 1 1 3 a831 kc831 ([(.int qa), (.int qb)]) (.int 0) a854 kc854 ([(.int na), (.int nb), (.int nc)]) (.int 0) na 5 T1745.heap h0.size Z1777 (O2) (P5) (O4) (rG3) fq1745_0 fq1745_1 fq1745_2 f1779 f1763 f1764 (by decide) (by decide) (⟨by decide, by decide⟩) (by rfl) (ch_na) (by decide) (by decide) (by decide) (by rfl) Old1775) hZ (wi hw 156 rfl) (wi hw 3 rfl) (by decide) (by decide)) (g := (mkF m 217 #[.val (.int sp), .val (.int qc), .val (.int mc), .val (.int lb), .val (.int lq), .val (.int 1), .val (.int 3), .val (.ref a831), .val (.ref a854), .val (.ref ra_1326), .val (.ref ra_1680), .val (.ref a1702), .val (.ref ra_1745), .val (.int 5)] [(.ref a854), (.ref a831), (.int 3), (.int 1), (.int 5), (.int 1), (.ref ra_1745)])) rfl (by rw [hml]; rfl) (argsL := [(.ref ra_1745), (.int 1), (.int 5), (.int 1), (.int 3), (.ref a831), (.ref a854)]) (rest := []) (lenOf pd__Ljava_lang_String_IIII_C_C_Z rfl) rfl (by show 2 * 0 + _ ≤ _; exact Nat.le_of_eq rfl) (hb hby at_217) (fun _ _ => ⟨rfl, K1783, (by decide : 12 + 0 ≤ _), (by decide : 63 + 0 ≤ _)⟩)
     dsimp only [Pt.U, Pt.locs, Pt.cells, Pt.slots] at X1785 l1785 y1785 z1785 st1785 hQ1785
     subst l1785 y1785 z1785
     obtain ⟨rfl, NQ1785, K1785⟩ := hQ1785
     have N1786 := Fr.app N1784 NQ1785
     refine Rch.st (fun _ k => st1785 _ k) ?_
     show Rch p e below T1785 (mkF m 220 #[.val (.int sp), .val (.int qc), .val (.int mc), .val (.int lb), .val (.int lq), .val (.int 1), .val (.int 3), .val (.ref a831), .val (.ref a854), .val (.ref ra_1326), .val (.ref ra_1680), .val (.ref a1702), .val (.ref ra_1745), .val (.int 5)] [(.int 1)]) _
     refine w_ifNo (pc' := 223) X1785 hx hby at_220 (XT.i0_eq_f (by decide)) rfl ?_
     refine w_aload (pc' := 225) X1785 hx hby at_223 rfl rfl rfl ?_
     refine w_iconst (pc' := 226) (v := 2) X1785 hx hby at_225 rfl rfl ?_
     refine w_iload (pc' := 228) X1785 hx hby at_226 rfl rfl ?_
     refine w_iload (pc' := 230) X1785 hx hby at_228 rfl rfl ?_
     refine w_iload (pc' := 232) X1785 hx hby at_230 rfl rfl ?_
     refine w_aload (pc' := 234) X1785 hx hby at_232 rfl rfl rfl ?_
     refine w_aload (pc' := 236) X1785 hx hby at_234 rfl rfl rfl ?_
     obtain ⟨_, _, ⟨T1787, L1787, k1787, n1787⟩, -, X1787, ⟨Lc1787, hQ1787, l1787, y1787, z1787⟩, st1787⟩ := Jvm.LawKit.callS X1785 hx (y := (⟨"com/example/alcance/alcance/IdentifiersQuotedPinLaw", "ok", "(Ljava/lang/String;IIII[C[C)Z"⟩ : MethodName)) hown (mvT hZ (wi hw 154 rfl)) (mvT hZ (wi hw 155 rfl)) (mvT hZ (wi hw 3 rfl)) (mvT hZ (wi hw 156 rfl)) (by decide) (backOf (W := 0) (rm_ok_B l Z a0 hw [] G1 G3 ra_1745 t_1745 kt_1745 5 ([(.int (own_by qa)), (.int (own_by na)), (.int (own_by nb)), (.int (own_by nc)), (.int (own_by qa))]) (.int 0) 2 1 3 a831 kc831 ([(.int qa), (.int qb)]) (.int 0) a854 kc854 ([(.int na), (.int nb), (.int nc)]) (.int 0) nb 5 T1745.heap h0.size Z1777 (O2) (P5) (O4) (rG3) fq1745_0 fq1745_1 fq1745_2 f1779 f1763 f1764 (by decide) (by decide) (⟨by decide, by decide⟩) (by rfl) (ch_nb) (by decide) (by decide) (by decide) (by rfl) Old1775) hZ (wi hw 156 rfl) (wi hw 3 rfl) (by decide) (by decide)) (g := (mkF m 236 #[.val (.int sp), .val (.int qc), .val (.int mc), .val (.int lb), .val (.int lq), .val (.int 1), .val (.int 3), .val (.ref a831), .val (.ref a854), .val (.ref ra_1326), .val (.ref ra_1680), .val (.ref a1702), .val (.ref ra_1745), .val (.int 5)] [(.ref a854), (.ref a831), (.int 3), (.int 1), (.int 5), (.int 2), (.ref ra_1745)])) rfl (by rw [hml]; rfl) (argsL := [(.ref ra_1745), (.int 2), (.int 5), (.int 1), (.int 3), (.ref a831), (.ref a854)]) (rest := []) (lenOf pd__Ljava_lang_String_IIII_C_C_Z rfl) rfl (by show 2 * 0 + _ ≤ _; exact Nat.le_of_eq rfl) (hb hby at_236) (fun _ _ => ⟨rfl, K1785, (by decide : 12 + 0 ≤ _), (by decide : 63 + 0 ≤ _)⟩)
     dsimp only [Pt.U, Pt.locs, Pt.cells, Pt.slots] at X1787 l1787 y1787 z1787 st1787 hQ1787
     subst l1787 y1787 z1787
     obtain ⟨rfl, NQ1787, K1787⟩ := hQ1787
     have N1788 := Fr.app N1786 NQ1787
     refine Rch.st (fun _ k => st1787 _ k) ?_
     show Rch p e below T1787 (mkF m 239 #[.val (.int sp), .val (.int qc), .val (.int mc), .val (.int lb), .val (.int lq), .val (.int 1), .val (.int 3), .val (.ref a831), .val (.ref a854), .val (.ref ra_1326), .val (.ref ra_1680), .val (.ref a1702), .val (.ref ra_1745), .val (.int 5)] [(.int 1)]) _
     refine w_ifNo (pc' := 242) X1787 hx hby at_239 (XT.i0_eq_f (by decide)) rfl ?_
     refine w_aload (pc' := 244) X1787 hx hby at_242 rfl rfl rfl ?_
     refine w_iconst (pc' := 245) (v := 3) X1787 hx hby at_244 rfl rfl ?_
     refine w_iload (pc' := 247) X1787 hx hby at_245 rfl rfl ?_
     refine w_iload (pc' := 249) X1787 hx hby at_247 rfl rfl ?_
     refine w_iload (pc' := 251) X1787 hx hby at_249 rfl rfl ?_
     refine w_aload (pc' := 253) X1787 hx hby at_251 rfl rfl rfl ?_
     refine w_aload (pc' := 255) X1787 hx hby at_253 rfl rfl rfl ?_
     obtain ⟨_, _, ⟨T1789, L1789, k1789, n1789⟩, -, X1789, ⟨Lc1789, hQ1789, l1789, y1789, z1789⟩, st1789⟩ := Jvm.LawKit.callS X1787 hx (y := (⟨"com/example/alcance/alcance/IdentifiersQuotedPinLaw", "ok", "(Ljava/lang/String;IIII[C[C)Z"⟩ : MethodName)) hown (mvT hZ (wi hw 154 rfl)) (mvT hZ (wi hw 155 rfl)) (mvT hZ (wi hw 3 rfl)) (mvT hZ (wi hw 156 rfl)) (by decide) (backOf (W := 0) (rm_ok_B l Z a0 hw [] G1 G3 ra_1745 t_1745 kt_1745 5 ([(.int (own_by qa)), (.int (own_by na)), (.int (own_by nb)), (.int (own_by nc)), (.int (own_by qa))]) (.int 0) 3 1 3 a831 kc831 ([(.int qa), (.int qb)]) (.int 0) a854 kc854 ([(.int na), (.int nb), (.int nc)]) (.int 0) nc 5 T1745.heap h0.size Z1777 (O2) (P5) (O4) (rG3) fq1745_0 fq1745_1 fq1745_2 f1779 f1763 f1764 (by decide) (by decide) (⟨by decide, by decide⟩) (by rfl) (ch_nc) (by decide) (by decide) (by decide) (by rfl) Old1775) hZ (wi hw 156 rfl) (wi hw 3 rfl) (by decide) (by decide)) (g := (mkF m 255 #[.val (.int sp), .val (.int qc), .val (.int mc), .val (.int lb), .val (.int lq), .val (.int 1), .val (.int 3), .val (.ref a831), .val (.ref a854), .val (.ref ra_1326), .val (.ref ra_1680), .val (.ref a1702), .val (.ref ra_1745), .val (.int 5)] [(.ref a854), (.ref a831), (.int 3), (.int 1), (.int 5), (.int 3), (.ref ra_1745)])) rfl (by rw [hml]; rfl) (argsL := [(.ref ra_1745), (.int 3), (.int 5), (.int 1), (.int 3), (.ref a831), (.ref a854)]) (rest := []) (lenOf pd__Ljava_lang_String_IIII_C_C_Z rfl) rfl (by show 2 * 0 + _ ≤ _; exact Nat.le_of_eq rfl) (hb hby at_255) (fun _ _ => ⟨rfl, K1787, (by decide : 12 + 0 ≤ _), (by decide : 63 + 0 ≤ _)⟩)
     dsimp only [Pt.U, Pt.locs, Pt.cells, Pt.slots] at X1789 l1789 y1789 z1789 st1789 hQ1789
     subst l1789 y1789 z1789
     obtain ⟨rfl, NQ1789, K1789⟩ := hQ1789
     have N1790 := Fr.app N1788 NQ1789
     refine Rch.st (fun _ k => st1789 _ k) ?_
     show Rch p e below T1789 (mkF m 258 #[.val (.int sp), .val (.int qc), .val (.int mc), .val (.int lb), .val (.int lq), .val (.int 1), .val (.int 3), .val (.ref a831), .val (.ref a854), .val (.ref ra_1326), .val (.ref ra_1680), .val (.ref a1702), .val (.ref ra_1745), .val (.int 5)] [(.int 1)]) _
     refine w_ifNo (pc' := 261) X1789 hx hby at_258 (XT.i0_eq_f (by decide)) rfl ?_
     refine w_aload (pc' := 263) X1789 hx hby at_261 rfl rfl rfl ?_
     refine w_iconst (pc' := 264) (v := 4) X1789 hx hby at_263 rfl rfl ?_
     refine w_iload (pc' := 266) X1789 hx hby at_264 rfl rfl ?_
     refine w_iload (pc' := 268) X1789 hx hby at_266 rfl rfl ?_
     refine w_iload (pc' := 270) X1789 hx hby at_268 rfl rfl ?_
     refine w_aload (pc' := 272) X1789 hx hby at_270 rfl rfl rfl ?_
     refine w_aload (pc' := 274) X1789 hx hby at_272 rfl rfl rfl ?_
     obtain ⟨_, _, ⟨T1791, L1791, k1791, n1791⟩, -, X1791, ⟨Lc1791, hQ1791, l1791, y1791, z1791⟩, st1791⟩ := Jvm.LawKit.callS X1789 hx (y := (⟨"com/example/alcance/alcance/IdentifiersQuotedPinLaw", "ok", "(Ljava/lang/String;IIII[C[C)Z"⟩ : MethodName)) hown (mvT hZ (wi hw 154 rfl)) (mvT hZ (wi hw 155 rfl)) (mvT hZ (wi hw 3 rfl)) (mvT hZ (wi hw 156 rfl)) (by decide) (backOf (W := 0) (rm_ok_C l Z a0 hw [] G1 G3 ra_1745 t_1745 kt_1745 5 ([(.int (own_by qa)), (.int (own_by na)), (.int (own_by nb)), (.int (own_by nc)), (.int (own_by qa))]) (.int 0) 4 1 3 a831 kc831 ([(.int qa), (.int qb)]) (.int 0) a854 kc854 ([(.int na), (.int nb), (.int nc)]) (.int 0) qa 5 T1745.heap h0.size Z1777 (O2) (P5) (O4) (rG3) fq1745_0 fq1745_1 fq1745_2 f1779 f1763 f1764 (by decide) (by decide) (⟨by decide, by decide⟩) (by rfl) (ch_qa) (by decide) (by decide) (by decide) (by rfl) Old1775) hZ (wi hw 156 rfl) (wi hw 3 rfl) (by decide) (by decide)) (g := (mkF m 274 #[.val (.int sp), .val (.int qc), .val (.int mc), .val (.int lb), .val (.int lq), .val (.int 1), .val (.int 3), .val (.ref a831), .val (.ref a854), .val (.ref ra_1326), .val (.ref ra_1680), .val (.ref a1702), .val (.ref ra_1745), .val (.int 5)] [(.ref a854), (.ref a831), (.int 3), (.int 1), (.int 5), (.int 4), (.ref ra_1745)])) rfl (by rw [hml]; rfl) (argsL := [(.ref ra_1745), (.int 4), (.int 5), (.int 1), (.int 3), (.ref a831), (.ref a854)]) (rest := []) (lenOf pd__Ljava_lang_String_IIII_C_C_Z rfl) rfl (by show 2 * 0 + _ ≤ _; exact Nat.le_of_eq rfl) (hb hby at_274) (fun _ _ => ⟨rfl, K1789, (by decide : 12 + 0 ≤ _), (by decide : 63 + 0 ≤ _)⟩)
     dsimp only [Pt.U, Pt.locs, Pt.cells, Pt.slots] at X1791 l1791 y1791 z1791 st1791 hQ1791
     subst l1791 y1791 z1791
     obtain ⟨rfl, NQ1791, K1791⟩ := hQ1791
     have N1792 := Fr.app N1790 NQ1791
     refine Rch.st (fun _ k => st1791 _ k) ?_
     show Rch p e below T1791 (mkF m 277 #[.val (.int sp), .val (.int qc), .val (.int mc), .val (.int lb), .val (.int lq), .val (.int 1), .val (.int 3), .val (.ref a831), .val (.ref a854), .val (.ref ra_1326), .val (.ref ra_1680), .val (.ref a1702), .val (.ref ra_1745), .val (.int 5)] [(.int 1)]) _
     refine w_ifNo (pc' := 280) X1791 hx hby at_277 (XT.i0_eq_f (by decide)) rfl ?_
     refine w_aload (pc' := 282) X1791 hx hby at_280 rfl rfl rfl ?_
     refine w_iconst (pc' := 283) (v := 5) X1791 hx hby at_282 rfl rfl ?_
     refine w_iload (pc' := 285) X1791 hx hby at_283 rfl rfl ?_
     refine w_iload (pc' := 287) X1791 hx hby at_285 rfl rfl ?_
     refine w_iload (pc' := 289) X1791 hx hby at_287 rfl rfl ?_
     refine w_aload (pc' := 291) X1791 hx hby at_289 rfl rfl rfl ?_
     refine w_aload (pc' := 293) X1791 hx hby at_291 rfl rfl rfl ?_
     obtain ⟨_, _, ⟨T1793, L1793, k1793, n1793⟩, -, X1793, ⟨Lc1793, hQ1793, l1793, y1793, z1793⟩, st1793⟩ := Jvm.LawKit.callS X1791 hx (y := (⟨"com/example/alcance/alcance/IdentifiersQuotedPinLaw", "ok", "(Ljava/lang/String;IIII[C[C)Z"⟩ : MethodName)) hown (mvT hZ (wi hw 154 rfl)) (mvT hZ (wi hw 155 rfl)) (mvT hZ (wi hw 3 rfl)) (mvT hZ (wi hw 156 rfl)) (by decide) (backOf (W := 0) (rm_ok_far l Z a0 hw [] ra_1745 5 5 1 3 a831 a854 T1745.heap h0.size Z1777 (by decide)) hZ (wi hw 156 rfl) (wi hw 3 rfl) (by decide) (by decide)) (g := (mkF m 293 #[.val (.int sp), .val (.int qc), .val (.int mc), .val (.int lb), .val (.int lq), .val (.int 1), .val (.int 3), .val (.ref a831), .val (.ref a854), .val (.ref ra_1326), .val (.ref ra_1680), .val (.ref a1702), .val (.ref ra_1745), .val (.int 5)] [(.ref a854), (.ref a831), (.int 3), (.int 1), (.int 5), (.int 5), (.ref ra_1745)])) rfl (by rw [hml]; rfl) (argsL := [(.ref ra_1745), (.int 5), (.int 5), (.int 1), (.int 3), (.ref a831), (.ref a854)]) (rest := []) (lenOf pd__Ljava_lang_String_IIII_C_C_Z rfl) rfl (by show 2 * 0 + _ ≤ _; exact Nat.le_of_eq rfl) (hb hby at_293) (fun _ _ => ⟨rfl, K1791, (by decide : 12 + 0 ≤ _), (by decide : 63 + 0 ≤ _)⟩)
     dsimp only [Pt.U, Pt.locs, Pt.cells, Pt.slots] at X1793 l1793 y1793 z1793 st1793 hQ1793
     subst l1793 y1793 z1793
     obtain ⟨rfl, NQ1793, K1793⟩ := hQ1793
     have N1794 := Fr.app N1792 NQ1793
     refine Rch.st (fun _ k => st1793 _ k) ?_
     show Rch p e below T1793 (mkF m 296 #[.val (.int sp), .val (.int qc), .val (.int mc), .val (.int lb), .val (.int lq), .val (.int 1), .val (.int 3), .val (.ref a831), .val (.ref a854), .val (.ref ra_1326), .val (.ref ra_1680), .val (.ref a1702), .val (.ref ra_1745), .val (.int 5)] [(.int 1)]) _
     refine w_ifNo (pc' := 299) X1793 hx hby at_296 (XT.i0_eq_f (by decide)) rfl ?_
     refine w_aload (pc' := 301) X1793 hx hby at_299 rfl rfl rfl ?_
     refine w_bipush (pc' := 303) (v := 6) X1793 hx hby at_301 rfl rfl ?_
     refine w_iload (pc' := 305) X1793 hx hby at_303 rfl rfl ?_
     refine w_iload (pc' := 307) X1793 hx hby at_305 rfl rfl ?_
     refine w_iload (pc' := 309) X1793 hx hby at_307 rfl rfl ?_
     refine w_aload (pc' := 311) X1793 hx hby at_309 rfl rfl rfl ?_
     refine w_aload (pc' := 313) X1793 hx hby at_311 rfl rfl rfl ?_
     obtain ⟨_, _, ⟨T1795, L1795, k1795, n1795⟩, -, X1795, ⟨Lc1795, hQ1795, l1795, y1795, z1795⟩, st1795⟩ := Jvm.LawKit.callS X1793 hx (y := (⟨"com/example/alcance/alcance/IdentifiersQuotedPinLaw", "ok", "(Ljava/lang/String;IIII[C[C)Z"⟩ : MethodName)) hown (mvT hZ (wi hw 154 rfl)) (mvT hZ (wi hw 155 rfl)) (mvT hZ (wi hw 3 rfl)) (mvT hZ (wi hw 156 rfl)) (by decide) (backOf (W := 0) (rm_ok_far l Z a0 hw [] ra_1745 6 5 1 3 a831 a854 T1745.heap h0.size Z1777 (by decide)) hZ (wi hw 156 rfl) (wi hw 3 rfl) (by decide) (by decide)) (g := (mkF m 313 #[.val (.int sp), .val (.int qc), .val (.int mc), .val (.int lb), .val (.int lq), .val (.int 1), .val (.int 3), .val (.ref a831), .val (.ref a854), .val (.ref ra_1326), .val (.ref ra_1680), .val (.ref a1702), .val (.ref ra_1745), .val (.int 5)] [(.ref a854), (.ref a831), (.int 3), (.int 1), (.int 5), (.int 6), (.ref ra_1745)])) rfl (by rw [hml]; rfl) (argsL := [(.ref ra_1745), (.int 6), (.int 5), (.int 1), (.int 3), (.ref a831), (.ref a854)]) (rest := []) (lenOf pd__Ljava_lang_String_IIII_C_C_Z rfl) rfl (by show 2 * 0 + _ ≤ _; exact Nat.le_of_eq rfl) (hb hby at_313) (fun _ _ => ⟨rfl, K1793, (by decide : 12 + 0 ≤ _), (by decide : 63 + 0 ≤ _)⟩)
     dsimp only [Pt.U, Pt.locs, Pt.cells, Pt.slots] at X1795 l1795 y1795 z1795 st1795 hQ1795
     subst l1795 y1795 z1795
     obtain ⟨rfl, NQ1795, K1795⟩ := hQ1795
     have N1796 := Fr.app N1794 NQ1795
     refine Rch.st (fun _ k => st1795 _ k) ?_
     show Rch p e below T1795 (mkF m 316 #[.val (.int sp), .val (.int qc), .val (.int mc), .val (.int lb), .val (.int lq), .val (.int 1), .val (.int 3), .val (.ref a831), .val (.ref a854), .val (.ref ra_1326), .val (.ref ra_1680), .val (.ref a1702), .val (.ref ra_1745), .val (.int 5)] [(.int 1)]) _
     refine w_ifNo (pc' := 319) X1795 hx hby at_316 (XT.i0_eq_f (by decide)) rfl ?_
     refine w_iconst (pc' := 320) (v := 1) X1795 hx hby at_319 rfl rfl ?_
     refine w_goto (pc' := 324) X1795 hx hby at_320 (by decide) ?_
     exact Rch.retVW X1795 hx hS0 (by rw [K1795]; exact hk1778) Bd.returns rfl (Or.inl ⟨rfl, by simp, _, rfl⟩) (hb hby at_324) (by rw [K1795]; exact ⟨rfl, (own_Fr Z0 N1796), Kp1776, own_ib_mono (own_ib (s := s.setVm s.vm) hI X1795.warmed) (by decide)⟩) (by decide) (by decide)
   ·skip
    show Rch p e below T880 (mkF m 117 #[.val (.int sp), .val (.int qc), .val (.int mc), .val (.int lb), .val (.int lq), .val (.int 2), .val (.int nl), .val (.ref a831), .val (.ref a854), .unset, .unset, .unset, .unset, .unset] [(.int 1), (.ref a854), (.ref a831), (.int 2)]) _
    obtain ⟨_, _, ⟨T1797, L1797, k1797, n1797⟩, -, X1797, ⟨Lc1797, hQ1797, l1797, y1797, z1797⟩, st1797⟩ := Jvm.LawKit.callS X880 hx (y := (⟨"com/example/alcance/alcance/IdentifiersQuotedPinLaw", "make", "(I[C[CZ)Ljava/lang/String;"⟩ : MethodName)) hown (mvT hZ (wi hw 1 rfl)) (mvT hZ (wi hw 2 rfl)) (mvT hZ (wi hw 3 rfl)) (mvT hZ (wi hw 4 rfl)) (by decide) (backOf (W := 0) (rm_mk_1_2 l Z a0 hw [] G1 a831 a854 kc831 qa qb h880 h0.size Z884 (O2) (P5) f882 (ch_qa) (ch_qb) Old883) hZ (wi hw 4 rfl) (wi hw 3 rfl) (by decide) (by decide)) (g := (mkF m 117 #[.val (.int sp), .val (.int qc), .val (.int mc), .val (.int lb), .val (.int lq), .val (.int 2), .val (.int nl), .val (.ref a831), .val (.ref a854), .unset, .unset, .unset, .unset, .unset] [(.int 1), (.ref a854), (.ref a831), (.int 2)])) rfl (by rw [hml]; rfl) (argsL := [(.int 2), (.ref a831), (.ref a854), (.int 1)]) (rest := []) (lenOf pd__I_C_CZ_Ljava_lang_String_ rfl) rfl (by show 2 * 0 + _ ≤ _; exact Nat.le_of_eq rfl) (hb hby at_117) (fun _ _ => ⟨rfl, e880, (by decide : 2 + 3 ≤ _), (by decide : 5 + 8 ≤ _)⟩)
    dsimp only [Pt.U, Pt.locs, Pt.cells, Pt.slots] at X1797 l1797 y1797 z1797 st1797 hQ1797
    subst l1797 y1797 z1797
    obtain ⟨ra_1797, t_1797, kt_1797, rfl, NQ1797, K1797, pq1797_0, pq1797_1, fq1797_0, fq1797_1, fq1797_2, fq1797_3⟩ := hQ1797
    have N1798 := Fr.app N881 NQ1797
    have f1805 := f882.keep K1797 nin0
    have f1806 := f888.keep K1797 nin0
    have Old1807 := Old883.keep K1797 all0
    have Kp1808 : Keep h0 T1797.heap [] := Kp886.trans K1797 all0
    have Z1809 := Nat.le_trans Z884 K1797.1
    have hk1810 := Nat.le_trans hk885 K1797.1
    refine Rch.st (fun _ k => st1797 _ k) ?_
    show Rch p e below T1797 (mkF m 120 #[.val (.int sp), .val (.int qc), .val (.int mc), .val (.int lb), .val (.int lq), .val (.int 2), .val (.int nl), .val (.ref a831), .val (.ref a854), .unset, .unset, .unset, .unset, .unset] [(.ref ra_1797)]) _
    refine w_astore (pc' := 122) (l' := #[.val (.int sp), .val (.int qc), .val (.int mc), .val (.int lb), .val (.int lq), .val (.int 2), .val (.int nl), .val (.ref a831), .val (.ref a854), .val (.ref ra_1797), .unset, .unset, .unset, .unset]) X1797 hx hby at_120 rfl rfl rfl ?_
    refine w_iload (pc' := 124) X1797 hx hby at_122 rfl rfl ?_
    refine w_aload (pc' := 126) X1797 hx hby at_124 rfl rfl rfl ?_
    refine w_aload (pc' := 128) X1797 hx hby at_126 rfl rfl rfl ?_
    refine w_iconst (pc' := 129) (v := 0) X1797 hx hby at_128 rfl rfl ?_
    rcases (hnl ▸ own_and3 _ : nl = 0 ∨ nl = 1 ∨ nl = 2 ∨ nl = 3) with rfl | rfl | rfl | rfl
    ·skip
     show Rch p e below T1797 (mkF m 129 #[.val (.int sp), .val (.int qc), .val (.int mc), .val (.int lb), .val (.int lq), .val (.int 2), .val (.int 0), .val (.ref a831), .val (.ref a854), .val (.ref ra_1797), .unset, .unset, .unset, .unset] [(.int 0), (.ref a854), (.ref a831), (.int 0)]) _
     obtain ⟨_, _, ⟨T1811, L1811, k1811, n1811⟩, -, X1811, hSx1811, hgx1811, ⟨Lc1811, hQ1811, l1811, y1811, z1811⟩, st1811⟩ := callSS X1797 hx (y := (⟨"com/example/alcance/alcance/IdentifiersQuotedPinLaw", "make", "(I[C[CZ)Ljava/lang/String;"⟩ : MethodName)) hown (mvT hZ (wi hw 1 rfl)) (mvT hZ (wi hw 2 rfl)) (mvT hZ (wi hw 3 rfl)) (mvT hZ (wi hw 4 rfl)) (by decide) (backOfV (PV := fun vm => IB Z vm ([] : List String)) (W := 0) (rm_mk_0_0 l Z a0 hw [] a831 a854 T1797.heap h0.size Z1809 (H32) (hcw) Old1807) hZ (fun vm hW => own_ib (s := s.setVm s.vm) hI hW) (wi hw 4 rfl) (wi hw 3 rfl) (by decide) (by decide)) (g := (mkF m 129 #[.val (.int sp), .val (.int qc), .val (.int mc), .val (.int lb), .val (.int lq), .val (.int 2), .val (.int 0), .val (.ref a831), .val (.ref a854), .val (.ref ra_1797), .unset, .unset, .unset, .unset] [(.int 0), (.ref a854), (.ref a831), (.int 0)])) rfl (by rw [hml]; rfl) (argsL := [(.int 0), (.ref a831), (.ref a854), (.int 0)]) (rest := []) (lenOf pd__I_C_CZ_Ljava_lang_String_ rfl) rfl (by show 2 * 0 + _ ≤ _; exact Nat.le_of_eq rfl) (hb hby at_129) (fun _ _ => ⟨rfl, (rfl : T1797.heap = T1797.heap), (by decide : 5 + 2 ≤ _), (by decide : 13 + 4 ≤ _)⟩)
     dsimp only [Pt.U, Pt.locs, Pt.cells, Pt.slots] at X1811 l1811 y1811 z1811 st1811 hQ1811 hSx1811 hgx1811
     subst l1811 y1811 z1811
     have hS1811 := foldS hS0 (by rw [(rfl : T1797.heap = T1797.heap)]; exact hk1810) hSx1811 hgx1811
     have hk1811 : T1811.heap.size ≤ T1811.heap.size := Nat.le_refl _
     have hZ1811 : Z.Warmed39 (s.setVm T1811.vm).vm := State.Warmed39.trans (t := s.setVm s.vm) hZ hSx1811.1
     have hown1811 : (s.setVm T1811.vm).vm.findClass "com/example/alcance/alcance/IdentifiersQuotedPinLaw" = some m.cls := by rw [show (s.setVm T1811.vm).vm = T1811.vm from rfl, hSx1811.1.alike.findClass]; exact hown
     have X1811w : Stand p l e room_1 (s.setVm T1811.vm) m _ below meth c T1811 _ _ _ := X1811
     obtain ⟨ra_1811, t_1811, kt_1811, rfl, NQ1811, K1811, fq1811_0, fq1811_1, fq1811_2, fq1811_3, IQ1811, LQ1811_0⟩ := hQ1811
     have N1812 := Fr.app N1798 NQ1811
     have f1813 := f1805.keep K1811 nin0
     have f1814 := f1806.keep K1811 nin0
     have f1815 := fq1797_0.keep K1811
     have f1816 := fq1797_1.keep K1811 nin0
     have f1817 := fq1797_2.keep K1811 nin0
     have f1818 := fq1797_3.keep K1811 nin0
     have Old1819 := Old1807.keep K1811 all0
     have Kp1820 : Keep h0 T1811.heap [] := Kp1808.trans K1811 all0
     have Z1821 := Nat.le_trans Z1809 K1811.1
     refine Rch.st (fun _ k => st1811.trans k) ?_
     show Rch p e below T1811 (mkF m 132 #[.val (.int sp), .val (.int qc), .val (.int mc), .val (.int lb), .val (.int lq), .val (.int 2), .val (.int 0), .val (.ref a831), .val (.ref a854), .val (.ref ra_1797), .unset, .unset, .unset, .unset] [(.ref ra_1811)]) _
     refine w_astore (pc' := 134) (l' := #[.val (.int sp), .val (.int qc), .val (.int mc), .val (.int lb), .val (.int lq), .val (.int 2), .val (.int 0), .val (.ref a831), .val (.ref a854), .val (.ref ra_1797), .val (.ref ra_1811), .unset, .unset, .unset]) X1811w hx hby at_132 rfl rfl rfl ?_
     obtain ⟨T1822, h1822, X1822, e1822, E1822, A1822, D1822, -, st1822⟩ := newO X1811w hx hZ1811 hown1811 (wi hw 13 rfl) (wi hw 14 rfl) (wi hw 15 rfl) (rfl : T1811.heap = T1811.heap) (g := (mkF m 134 #[.val (.int sp), .val (.int qc), .val (.int mc), .val (.int lb), .val (.int lq), .val (.int 2), .val (.int 0), .val (.ref a831), .val (.ref a854), .val (.ref ra_1797), .val (.ref ra_1811), .unset, .unset, .unset] [])) rfl (hb hby at_134) (by decide) (by decide)
     obtain ⟨a1822, g1822⟩ : ∃ z, z = T1811.heap.size := ⟨_, rfl⟩
     rw [← g1822] at A1822 D1822 st1822
     have ne1823 : a831 ≠ a1822 := by rw [g1822]; exact Nat.ne_of_lt f1813.lt
     have ne1824 : a854 ≠ a1822 := by rw [g1822]; exact Nat.ne_of_lt f1814.lt
     have ne1825 : ra_1797 ≠ a1822 := by rw [g1822]; exact Nat.ne_of_lt f1815.lt
     have ne1826 : ra_1811 ≠ a1822 := by rw [g1822]; exact Nat.ne_of_lt fq1811_0.lt
     have ne1827 : t_1797 ≠ a1822 := by rw [g1822]; exact Nat.ne_of_lt f1818.lt
     have ne1828 : t_1811 ≠ a1822 := by rw [g1822]; exact Nat.ne_of_lt fq1811_3.lt
     have ge1829 : h0.size ≤ a1822 := Nat.le_trans Z1821 (Nat.le_of_eq g1822.symm)
     have hk1831 := Nat.le_trans hk1811 E1822.1
     have f1832 := f1813.ext E1822
     have f1833 := f1814.ext E1822
     have f1834 := f1815.ext E1822
     have f1835 := f1816.ext E1822
     have f1836 := f1817.ext E1822
     have f1837 := f1818.ext E1822
     have f1838 := fq1811_0.ext E1822
     have f1839 := fq1811_1.ext E1822
     have f1840 := fq1811_2.ext E1822
     have f1841 := fq1811_3.ext E1822
     have Old1842 := Old1819.ext E1822
     have Z1843 := Nat.le_trans Z1821 E1822.1
     have Kp1844 : Keep h0 h1822 [] := Kp1820.ext E1822
     have f1845 : Fld Z h1822 a1822 "com/example/alcance/alcance/Identifiers" "lowersBare" "Z" (.int (0 : Int32)) := D1822 (Or.inr (wi hw 28 rfl)) (ty := .boolean) (by decide)
     have f1846 : Fld Z h1822 a1822 "com/example/alcance/alcance/Identifiers" "lowersQuoted" "Z" (.int (0 : Int32)) := D1822 (Or.inr (wi hw 30 rfl)) (ty := .boolean) (by decide)
     have f1847 : Fld Z h1822 a1822 "com/example/alcance/alcance/Identifiers" "quote" "Ljava/lang/String;" .null := D1822 (Or.inr (wi hw 32 rfl)) (ty := (.object "java/lang/String")) (by decide)
     refine Rch.st (fun _ k => st1822 _ k) ?_
     show Rch p e below T1822 (mkF m 137 #[.val (.int sp), .val (.int qc), .val (.int mc), .val (.int lb), .val (.int lq), .val (.int 2), .val (.int 0), .val (.ref a831), .val (.ref a854), .val (.ref ra_1797), .val (.ref ra_1811), .unset, .unset, .unset] [(.ref a1822)]) _
     refine w_dup (pc' := 138) X1822 hx hby at_137 rfl rfl ?_
     refine w_iloadN (pc' := 139) X1822 hx hby at_138 rfl rfl ?_
     refine w_iload (pc' := 141) X1822 hx hby at_139 rfl rfl ?_
     refine w_aload (pc' := 143) X1822 hx hby at_141 rfl rfl rfl ?_
     obtain ⟨_, _, ⟨T1848, L1848, k1848, n1848⟩, -, X1848, ⟨Lc1848, hQ1848, l1848, y1848, z1848⟩, st1848⟩ := X1822.specialBack hx (y := (⟨"com/example/alcance/alcance/Identifiers", "<init>", "(ZZLjava/lang/String;)V"⟩ : MethodName)) rfl hown1811 (mvT hZ1811 (wi hw 16 rfl)) (mvT hZ1811 (wi hw 17 rfl)) (mvT hZ1811 (wi hw 18 rfl)) (by decide) (backOf (W := 1) (rm_id l Z a0 hw [] a1822 lb lq ra_1797 h1822 h0.size Z1843 A1822 f1845 f1846 f1847 (ge1829) (hlb) (hlq)) hZ1811 (wi hw 18 rfl) (wi hw 15 rfl) (by decide) (by decide)) (g := (mkF m 143 #[.val (.int sp), .val (.int qc), .val (.int mc), .val (.int lb), .val (.int lq), .val (.int 2), .val (.int 0), .val (.ref a831), .val (.ref a854), .val (.ref ra_1797), .val (.ref ra_1811), .unset, .unset, .unset] [(.ref ra_1797), (.int lq), (.int lb), (.ref a1822), (.ref a1822)])) rfl (by rw [hml]; rfl) (Steps.refl _) (a := a1822) (argsL := [(.int lb), (.int lq), (.ref ra_1797)]) (rest := [(.ref a1822)]) (lenOf pd__ZZLjava_lang_String__V rfl) rfl (by show 2 * 0 + _ ≤ _; exact Nat.le_of_eq rfl) (hb hby at_143) (fun _ _ => ⟨rfl, e1822, (by decide : 8 + 0 ≤ _), (by decide : 20 + 0 ≤ _)⟩)
     dsimp only [Pt.U, Pt.locs, Pt.cells, Pt.slots] at X1848 l1848 y1848 z1848 st1848 hQ1848
     subst l1848 y1848 z1848
     obtain ⟨rfl, NQ1848, K1848, fq1848_0⟩ := hQ1848
     have N1849 := Fr.app N1812 NQ1848
     have f1850 := f1832.keep K1848 (ninS ne1823 nin0)
     have f1851 := f1833.keep K1848 (ninS ne1824 nin0)
     have f1852 := f1834.keep K1848
     have f1853 := f1835.keep K1848 (ninS ne1825 nin0)
     have f1854 := f1836.keep K1848 (ninS ne1825 nin0)
     have f1855 := f1837.keep K1848 (ninS ne1827 nin0)
     have f1856 := f1838.keep K1848
     have f1857 := f1839.keep K1848 (ninS ne1826 nin0)
     have f1858 := f1840.keep K1848 (ninS ne1826 nin0)
     have f1859 := f1841.keep K1848 (ninS ne1828 nin0)
     have f1860 := A1822.keep K1848
     have Old1861 := Old1842.keep K1848 (allS ge1829 all0)
     have Kp1862 : Keep h0 T1848.heap [] := Kp1844.trans K1848 (allS (Or.inr (Nat.le_trans Kp1820.1 (Nat.le_of_eq g1822.symm))) all0)
     have Z1863 := Nat.le_trans Z1843 K1848.1
     have hk1864 := Nat.le_trans hk1831 K1848.1
     refine Rch.st (fun _ k => st1848.trans k) ?_
     show Rch p e below T1848 (mkF m 146 #[.val (.int sp), .val (.int qc), .val (.int mc), .val (.int lb), .val (.int lq), .val (.int 2), .val (.int 0), .val (.ref a831), .val (.ref a854), .val (.ref ra_1797), .val (.ref ra_1811), .unset, .unset, .unset] [(.ref a1822)]) _
     refine w_astore (pc' := 148) (l' := #[.val (.int sp), .val (.int qc), .val (.int mc), .val (.int lb), .val (.int lq), .val (.int 2), .val (.int 0), .val (.ref a831), .val (.ref a854), .val (.ref ra_1797), .val (.ref ra_1811), .val (.ref a1822), .unset, .unset]) X1848 hx hby at_146 rfl rfl rfl ?_
     refine w_aload (pc' := 150) X1848 hx hby at_148 rfl rfl rfl ?_
     refine w_aload (pc' := 152) X1848 hx hby at_150 rfl rfl rfl ?_
     obtain ⟨cq1865, kq1865, q1865a, q1865b, q1865c⟩ := isOf hZ1811 (rfl : T1848.heap = T1848.heap) f1860
     obtain ⟨_, _, ⟨T1865, L1865, k1865, n1865⟩, -, X1865, ⟨Lc1865, hQ1865, l1865, y1865, z1865⟩, st1865⟩ := X1848.virtualBack hx (y := (⟨"com/example/alcance/alcance/Identifiers", "quoted", "(Ljava/lang/String;)Ljava/lang/String;"⟩ : MethodName)) (z := (⟨"com/example/alcance/alcance/Identifiers", "quoted", "(Ljava/lang/String;)Ljava/lang/String;"⟩ : MethodName)) hown1811 (mvT hZ1811 (wi hw 33 rfl)) (mvT hZ1811 (wi hw 34 rfl)) (notFace_of_selects (args := #[]) (mvT hZ1811 (wi hw 36 rfl))) (mvT hZ1811 (wi hw 36 rfl)) (mvT hZ1811 (wi hw 35 rfl)) (by decide) (backOf (W := 0) (rm_qu l Z a0 hw [] G1 a1822 ra_1797 t_1797 kt_1797 2 ([(.int (own_by qa)), (.int (own_by qb))]) (.int 0) ra_1811 t_1811 kt_1811 0 ([]) (.int 0) T1848.heap h0.size Z1863 (O2) (P5) fq1848_0 f1852 f1853 f1854 f1855 f1856 f1857 f1858 f1859 (by decide) (by decide) (by decide) (by decide) (by decide) (by decide) (by decide) (by decide) (by decide) (by decide) (by decide) (by decide) (by decide) (by decide) Old1861) hZ1811 (wi hw 37 rfl) (wi hw 15 rfl) (by decide) (by decide)) q1865a q1865c (g := (mkF m 152 #[.val (.int sp), .val (.int qc), .val (.int mc), .val (.int lb), .val (.int lq), .val (.int 2), .val (.int 0), .val (.ref a831), .val (.ref a854), .val (.ref ra_1797), .val (.ref ra_1811), .val (.ref a1822), .unset, .unset] [(.ref ra_1811), (.ref a1822)])) rfl (by rw [hml]; rfl) (Steps.refl _) (argsL := [(.ref ra_1811)]) (rest := []) (lenOf pd__Ljava_lang_String__Ljava_lang_String_ rfl) rfl (by show 2 * 0 + _ ≤ _; exact Nat.le_of_eq rfl) (hb hby at_152) (fun _ _ => ⟨rfl, (rfl : T1848.heap = T1848.heap), (by decide : 8 + 4 ≤ _), (by decide : 20 + 40 ≤ _)⟩)
     dsimp only [Pt.U, Pt.locs, Pt.cells, Pt.slots] at X1865 l1865 y1865 z1865 st1865 hQ1865
     subst l1865 y1865 z1865
     obtain ⟨ra_1865, t_1865, kt_1865, rfl, NQ1865, K1865, pq1865_0, pq1865_1, fq1865_0, fq1865_1, fq1865_2, fq1865_3⟩ := hQ1865
     have N1866 := Fr.app N1849 NQ1865
     have f1883 := f1850.keep K1865 nin0
     have f1884 := f1851.keep K1865 nin0
     have Old1895 := Old1861.keep K1865 all0
     have Kp1896 : Keep h0 T1865.heap [] := Kp1862.trans K1865 all0
     have Z1897 := Nat.le_trans Z1863 K1865.1
     have hk1898 := Nat.le_trans hk1864 K1865.1
     refine Rch.st (fun _ k => st1865.trans k) ?_
     show Rch p e below T1865 (mkF m 155 #[.val (.int sp), .val (.int qc), .val (.int mc), .val (.int lb), .val (.int lq), .val (.int 2), .val (.int 0), .val (.ref a831), .val (.ref a854), .val (.ref ra_1797), .val (.ref ra_1811), .val (.ref a1822), .unset, .unset] [(.ref ra_1865)]) _
     have f1899 : Arv Z T1865.heap t_1865 kt_1865 .byte (4 : Int32) [(.int (own_by qa)), (.int (own_by qb)), (.int (own_by qa)), (.int (own_by qb))] (.int (0 : Int32)) := by have z := fq1865_3; rw [show ((((0 : Int32) + (2 : Int32)) + (0 : Int32)) + (2 : Int32)) = (4 : Int32) from by decide, own_cat, own_t2, own_t0] at z; exact z
     refine w_astore (pc' := 157) (l' := #[.val (.int sp), .val (.int qc), .val (.int mc), .val (.int lb), .val (.int lq), .val (.int 2), .val (.int 0), .val (.ref a831), .val (.ref a854), .val (.ref ra_1797), .val (.ref ra_1811), .val (.ref a1822), .val (.ref ra_1865), .unset]) X1865 hx hby at_155 rfl rfl rfl ?_
     refine w_aload (pc' := 159) X1865 hx hby at_157 rfl rfl rfl ?_
     refine w_nonnullYes (pc' := 164) X1865 hx hby at_159 rfl (fun q => nomatch q) (by decide) ?_
     refine w_iconst (pc' := 165) (v := 2) X1865 hx hby at_164 rfl rfl ?_
     refine w_iload (pc' := 167) X1865 hx hby at_165 rfl rfl ?_
     refine w_imul (pc' := 168) X1865 hx hby at_167 rfl ?_
     refine w_iload (pc' := 170) X1865 hx hby at_168 rfl rfl ?_
     refine w_iadd (pc' := 171) X1865 hx hby at_170 rfl ?_
     have r1900 : (((2 : Int32) * (2 : Int32)) + (0 : Int32)) = (4 : Int32) := by decide
     rw [r1900]
     show Rch p e below T1865 (mkF m 171 #[.val (.int sp), .val (.int qc), .val (.int mc), .val (.int lb), .val (.int lq), .val (.int 2), .val (.int 0), .val (.ref a831), .val (.ref a854), .val (.ref ra_1797), .val (.ref ra_1811), .val (.ref a1822), .val (.ref ra_1865), .unset] [(.int 4)]) _
     refine w_istore (pc' := 173) (l' := #[.val (.int sp), .val (.int qc), .val (.int mc), .val (.int lb), .val (.int lq), .val (.int 2), .val (.int 0), .val (.ref a831), .val (.ref a854), .val (.ref ra_1797), .val (.ref ra_1811), .val (.ref a1822), .val (.ref ra_1865), .val (.int 4)]) X1865 hx hby at_171 rfl rfl ?_
     refine w_aload (pc' := 175) X1865 hx hby at_173 rfl rfl rfl ?_
     obtain ⟨cq1901, kq1901, q1901a, q1901b, q1901c⟩ := isOf hZ1811 (rfl : T1865.heap = T1865.heap) fq1865_0
     obtain ⟨_, _, ⟨T1901, L1901, k1901, n1901⟩, -, X1901, ⟨Lc1901, hQ1901, l1901, y1901, z1901⟩, st1901⟩ := X1865.virtualBack hx (y := (⟨"java/lang/String", "length", "()I"⟩ : MethodName)) (z := (⟨"java/lang/String", "length", "()I"⟩ : MethodName)) hown1811 (mvT hZ1811 (wi hw 153 rfl)) (mvT hZ1811 (wi hw 67 rfl)) (notFace_of_selects (args := #[]) (mvT hZ1811 (wi hw 69 rfl))) (mvT hZ1811 (wi hw 69 rfl)) (mvT hZ1811 (wi hw 68 rfl)) (by decide) (backOf (W := 0) (rm_length l Z a0 hw [] G1 ra_1865 0 t_1865 kt_1865 4 ([(.int (own_by qa)), (.int (own_by qb)), (.int (own_by qa)), (.int (own_by qb))]) (.int 0) T1865.heap h0.size Z1897 (O2) (P5) fq1865_1 (Or.inl rfl) fq1865_2 f1899 fq1865_0 Old1895) hZ1811 (wi hw 70 rfl) (wi hw 6 rfl) (by decide) (by decide)) q1901a q1901c (g := (mkF m 175 #[.val (.int sp), .val (.int qc), .val (.int mc), .val (.int lb), .val (.int lq), .val (.int 2), .val (.int 0), .val (.ref a831), .val (.ref a854), .val (.ref ra_1797), .val (.ref ra_1811), .val (.ref a1822), .val (.ref ra_1865), .val (.int 4)] [(.ref ra_1865)])) rfl (by rw [hml]; rfl) (Steps.refl _) (argsL := []) (rest := []) (lenOf pd___I rfl) rfl (by show 2 * 0 + _ ≤ _; exact Nat.le_of_eq rfl) (hb hby at_175) (fun _ _ => ⟨rfl, (rfl : T1865.heap = T1865.heap), (by decide : 12 + 0 ≤ _), (by decide : 60 + 0 ≤ _)⟩)
     dsimp only [Pt.U, Pt.locs, Pt.cells, Pt.slots] at X1901 l1901 y1901 z1901 st1901 hQ1901
     subst l1901 y1901 z1901
     obtain ⟨rfl, NQ1901, K1901⟩ := hQ1901
     have N1902 := Fr.app N1866 NQ1901
     refine Rch.st (fun _ k => st1901.trans k) ?_
     show Rch p e below T1901 (mkF m 178 #[.val (.int sp), .val (.int qc), .val (.int mc), .val (.int lb), .val (.int lq), .val (.int 2), .val (.int 0), .val (.ref a831), .val (.ref a854), .val (.ref ra_1797), .val (.ref ra_1811), .val (.ref a1822), .val (.ref ra_1865), .val (.int 4)] [(.int ((4 : Int32) >>> ((0 : Int32) &&& 31)))]) _
     refine w_iload (pc' := 180) X1901 hx hby at_178 rfl rfl ?_
     refine w_icmpYes (pc' := 185) X1901 hx hby at_180 (XT.ii_eq_t (by decide)) (by decide) ?_
     refine w_aload (pc' := 187) X1901 hx hby at_185 rfl rfl rfl ?_
     refine w_iconst (pc' := 188) (v := 0) X1901 hx hby at_187 rfl rfl ?_
     refine w_iload (pc' := 190) X1901 hx hby at_188 rfl rfl ?_
     refine w_iload (pc' := 192) X1901 hx hby at_190 rfl rfl ?_
     refine w_iload (pc' := 194) X1901 hx hby at_192 rfl rfl ?_
     refine w_aload (pc' := 196) X1901 hx hby at_194 rfl rfl rfl ?_
     refine w_aload (pc' := 198) X1901 hx hby at_196 rfl rfl rfl ?_
     obtain ⟨_, _, ⟨T1903, L1903, k1903, n1903⟩, -, X1903, ⟨Lc1903, hQ1903, l1903, y1903, z1903⟩, st1903⟩ := Jvm.LawKit.callS X1901 hx (y := (⟨"com/example/alcance/alcance/IdentifiersQuotedPinLaw", "ok", "(Ljava/lang/String;IIII[C[C)Z"⟩ : MethodName)) hown1811 (mvT hZ1811 (wi hw 154 rfl)) (mvT hZ1811 (wi hw 155 rfl)) (mvT hZ1811 (wi hw 3 rfl)) (mvT hZ1811 (wi hw 156 rfl)) (by decide) (backOf (W := 0) (rm_ok_A l Z a0 hw [] G1 G3 ra_1865 t_1865 kt_1865 4 ([(.int (own_by qa)), (.int (own_by qb)), (.int (own_by qa)), (.int (own_by qb))]) (.int 0) 0 2 0 a831 kc831 ([(.int qa), (.int qb)]) (.int 0) a854 kc854 ([(.int na), (.int nb), (.int nc)]) (.int 0) qa 4 T1865.heap h0.size Z1897 (O2) (P5) (O4) (rG3) fq1865_0 fq1865_1 fq1865_2 f1899 f1883 f1884 (by decide) (⟨by decide, by decide⟩) (by rfl) (ch_qa) (by decide) (by decide) (by decide) (by rfl) Old1895) hZ1811 (wi hw 156 rfl) (wi hw 3 rfl) (by decide) (by decide)) (g := (mkF m 198 #[.val (.int sp), .val (.int qc), .val (.int mc), .val (.int lb), .val (.int lq), .val (.int 2), .val (.int 0), .val (.ref a831), .val (.ref a854), .val (.ref ra_1797), .val (.ref ra_1811), .val (.ref a1822), .val (.ref ra_1865), .val (.int 4)] [(.ref a854), (.ref a831), (.int 0), (.int 2), (.int 4), (.int 0), (.ref ra_1865)])) rfl (by rw [hml]; rfl) (argsL := [(.ref ra_1865), (.int 0), (.int 4), (.int 2), (.int 0), (.ref a831), (.ref a854)]) (rest := []) (lenOf pd__Ljava_lang_String_IIII_C_C_Z rfl) rfl (by show 2 * 0 + _ ≤ _; exact Nat.le_of_eq rfl) (hb hby at_198) (fun _ _ => ⟨rfl, K1901, (by decide : 12 + 0 ≤ _), (by decide : 60 + 0 ≤ _)⟩)
     dsimp only [Pt.U, Pt.locs, Pt.cells, Pt.slots] at X1903 l1903 y1903 z1903 st1903 hQ1903
     subst l1903 y1903 z1903
     obtain ⟨rfl, NQ1903, K1903⟩ := hQ1903
     have N1904 := Fr.app N1902 NQ1903
     refine Rch.st (fun _ k => st1903 _ k) ?_
     show Rch p e below T1903 (mkF m 201 #[.val (.int sp), .val (.int qc), .val (.int mc), .val (.int lb), .val (.int lq), .val (.int 2), .val (.int 0), .val (.ref a831), .val (.ref a854), .val (.ref ra_1797), .val (.ref ra_1811), .val (.ref a1822), .val (.ref ra_1865), .val (.int 4)] [(.int 1)]) _
     refine w_ifNo (pc' := 204) X1903 hx hby at_201 (XT.i0_eq_f (by decide)) rfl ?_
     refine w_aload (pc' := 206) X1903 hx hby at_204 rfl rfl rfl ?_
     refine w_iconst (pc' := 207) (v := 1) X1903 hx hby at_206 rfl rfl ?_
     refine w_iload (pc' := 209) X1903 hx hby at_207 rfl rfl ?_
     refine w_iload (pc' := 211) X1903 hx hby at_209 rfl rfl ?_
     refine w_iload (pc' := 213) X1903 hx hby at_211 rfl rfl ?_
     refine w_aload (pc' := 215) X1903 hx hby at_213 rfl rfl rfl ?_
     refine w_aload (pc' := 217) X1903 hx hby at_215 rfl rfl rfl ?_
     obtain ⟨_, _, ⟨T1905, L1905, k1905, n1905⟩, -, X1905, ⟨Lc1905, hQ1905, l1905, y1905, z1905⟩, st1905⟩ := Jvm.LawKit.callS X1903 hx (y := (⟨"com/example/alcance/alcance/IdentifiersQuotedPinLaw", "ok", "(Ljava/lang/String;IIII[C[C)Z"⟩ : MethodName)) hown1811 (mvT hZ1811 (wi hw 154 rfl)) (mvT hZ1811 (wi hw 155 rfl)) (mvT hZ1811 (wi hw 3 rfl)) (mvT hZ1811 (wi hw 156 rfl)) (by decide) (backOf (W := 0) (rm_ok_A l Z a0 hw [] G1 G3 ra_1865 t_1865 kt_1865 4 ([(.int (own_by qa)), (.int (own_by qb)), (.int (own_by qa)), (.int (own_by qb))]) (.int 0) 1 2 0 a831 kc831 ([(.int qa), (.int qb)]) (.int 0) a854 kc854 ([(.int na), (.int nb), (.int nc)]) (.int 0) qb 4 T1865.heap h0.size Z1897 (O2) (P5) (O4) (rG3) fq1865_0 fq1865_1 fq1865_2 f1899 f1883 f1884 (by decide) (⟨by decide, by decide⟩) (by rfl) (ch_qb) (by decide) (by decide) (by decide) (by rfl) Old1895) hZ1811 (wi hw 156 rfl) (wi hw 3 rfl) (by decide) (by decide)) (g := (mkF m 217 #[.val (.int sp), .val (.int qc), .val (.int mc), .val (.int lb), .val (.int lq), .val (.int 2), .val (.int 0), .val (.ref a831), .val (.ref a854), .val (.ref ra_1797), .val (.ref ra_1811), .val (.ref a1822), .val (.ref ra_1865), .val (.int 4)] [(.ref a854), (.ref a831), (.int 0), (.int 2), (.int 4), (.int 1), (.ref ra_1865)])) rfl (by rw [hml]; rfl) (argsL := [(.ref ra_1865), (.int 1), (.int 4), (.int 2), (.int 0), (.ref a831), (.ref a854)]) (rest := []) (lenOf pd__Ljava_lang_String_IIII_C_C_Z rfl) rfl (by show 2 * 0 + _ ≤ _; exact Nat.le_of_eq rfl) (hb hby at_217) (fun _ _ => ⟨rfl, K1903, (by decide : 12 + 0 ≤ _), (by decide : 60 + 0 ≤ _)⟩)
     dsimp only [Pt.U, Pt.locs, Pt.cells, Pt.slots] at X1905 l1905 y1905 z1905 st1905 hQ1905
     subst l1905 y1905 z1905
     obtain ⟨rfl, NQ1905, K1905⟩ := hQ1905
     have N1906 := Fr.app N1904 NQ1905
     refine Rch.st (fun _ k => st1905 _ k) ?_
     show Rch p e below T1905 (mkF m 220 #[.val (.int sp), .val (.int qc), .val (.int mc), .val (.int lb), .val (.int lq), .val (.int 2), .val (.int 0), .val (.ref a831), .val (.ref a854), .val (.ref ra_1797), .val (.ref ra_1811), .val (.ref a1822), .val (.ref ra_1865), .val (.int 4)] [(.int 1)]) _
     refine w_ifNo (pc' := 223) X1905 hx hby at_220 (XT.i0_eq_f (by decide)) rfl ?_
     refine w_aload (pc' := 225) X1905 hx hby at_223 rfl rfl rfl ?_
     refine w_iconst (pc' := 226) (v := 2) X1905 hx hby at_225 rfl rfl ?_
     refine w_iload (pc' := 228) X1905 hx hby at_226 rfl rfl ?_
     refine w_iload (pc' := 230) X1905 hx hby at_228 rfl rfl ?_
     refine w_iload (pc' := 232) X1905 hx hby at_230 rfl rfl ?_
     refine w_aload (pc' := 234) X1905 hx hby at_232 rfl rfl rfl ?_
     refine w_aload (pc' := 236) X1905 hx hby at_234 rfl rfl rfl ?_
     obtain ⟨_, _, ⟨T1907, L1907, k1907, n1907⟩, -, X1907, ⟨Lc1907, hQ1907, l1907, y1907, z1907⟩, st1907⟩ := Jvm.LawKit.callS X1905 hx (y := (⟨"com/example/alcance/alcance/IdentifiersQuotedPinLaw", "ok", "(Ljava/lang/String;IIII[C[C)Z"⟩ : MethodName)) hown1811 (mvT hZ1811 (wi hw 154 rfl)) (mvT hZ1811 (wi hw 155 rfl)) (mvT hZ1811 (wi hw 3 rfl)) (mvT hZ1811 (wi hw 156 rfl)) (by decide) (backOf (W := 0) (rm_ok_C l Z a0 hw [] G1 G3 ra_1865 t_1865 kt_1865 4 ([(.int (own_by qa)), (.int (own_by qb)), (.int (own_by qa)), (.int (own_by qb))]) (.int 0) 2 2 0 a831 kc831 ([(.int qa), (.int qb)]) (.int 0) a854 kc854 ([(.int na), (.int nb), (.int nc)]) (.int 0) qa 4 T1865.heap h0.size Z1897 (O2) (P5) (O4) (rG3) fq1865_0 fq1865_1 fq1865_2 f1899 f1883 f1884 (by decide) (by decide) (⟨by decide, by decide⟩) (by rfl) (ch_qa) (by decide) (by decide) (by decide) (by rfl) Old1895) hZ1811 (wi hw 156 rfl) (wi hw 3 rfl) (by decide) (by decide)) (g := (mkF m 236 #[.val (.int sp), .val (.int qc), .val (.int mc), .val (.int lb), .val (.int lq), .val (.int 2), .val (.int 0), .val (.ref a831), .val (.ref a854), .val (.ref ra_1797), .val (.ref ra_1811), .val (.ref a1822), .val (.ref ra_1865), .val (.int 4)] [(.ref a854), (.ref a831), (.int 0), (.int 2), (.int 4), (.int 2), (.ref ra_1865)])) rfl (by rw [hml]; rfl) (argsL := [(.ref ra_1865), (.int 2), (.int 4), (.int 2), (.int 0), (.ref a831), (.ref a854)]) (rest := []) (lenOf pd__Ljava_lang_String_IIII_C_C_Z rfl) rfl (by show 2 * 0 + _ ≤ _; exact Nat.le_of_eq rfl) (hb hby at_236) (fun _ _ => ⟨rfl, K1905, (by decide : 12 + 0 ≤ _), (by decide : 60 + 0 ≤ _)⟩)
     dsimp only [Pt.U, Pt.locs, Pt.cells, Pt.slots] at X1907 l1907 y1907 z1907 st1907 hQ1907
     subst l1907 y1907 z1907
     obtain ⟨rfl, NQ1907, K1907⟩ := hQ1907
     have N1908 := Fr.app N1906 NQ1907
     refine Rch.st (fun _ k => st1907 _ k) ?_
     show Rch p e below T1907 (mkF m 239 #[.val (.int sp), .val (.int qc), .val (.int mc), .val (.int lb), .val (.int lq), .val (.int 2), .val (.int 0), .val (.ref a831), .val (.ref a854), .val (.ref ra_1797), .val (.ref ra_1811), .val (.ref a1822), .val (.ref ra_1865), .val (.int 4)] [(.int 1)]) _
     refine w_ifNo (pc' := 242) X1907 hx hby at_239 (XT.i0_eq_f (by decide)) rfl ?_
     refine w_aload (pc' := 244) X1907 hx hby at_242 rfl rfl rfl ?_
     refine w_iconst (pc' := 245) (v := 3) X1907 hx hby at_244 rfl rfl ?_
     refine w_iload (pc' := 247) X1907 hx hby at_245 rfl rfl ?_
     refine w_iload (pc' := 249) X1907 hx hby at_247 rfl rfl ?_
     refine w_iload (pc' := 251) X1907 hx hby at_249 rfl rfl ?_
     refine w_aload (pc' := 253) X1907 hx hby at_251 rfl rfl rfl ?_
     refine w_aload (pc' := 255) X1907 hx hby at_253 rfl rfl rfl ?_
     obtain ⟨_, _, ⟨T1909, L1909, k1909, n1909⟩, -, X1909, ⟨Lc1909, hQ1909, l1909, y1909, z1909⟩, st1909⟩ := Jvm.LawKit.callS X1907 hx (y := (⟨"com/example/alcance/alcance/IdentifiersQuotedPinLaw", "ok", "(Ljava/lang/String;IIII[C[C)Z"⟩ : MethodName)) hown1811 (mvT hZ1811 (wi hw 154 rfl)) (mvT hZ1811 (wi hw 155 rfl)) (mvT hZ1811 (wi hw 3 rfl)) (mvT hZ1811 (wi hw 156 rfl)) (by decide) (backOf (W := 0) (rm_ok_C l Z a0 hw [] G1 G3 ra_1865 t_1865 kt_1865 4 ([(.int (own_by qa)), (.int (own_by qb)), (.int (own_by qa)), (.int (own_by qb))]) (.int 0) 3 2 0 a831 kc831 ([(.int qa), (.int qb)]) (.int 0) a854 kc854 ([(.int na), (.int nb), (.int nc)]) (.int 0) qb 4 T1865.heap h0.size Z1897 (O2) (P5) (O4) (rG3) fq1865_0 fq1865_1 fq1865_2 f1899 f1883 f1884 (by decide) (by decide) (⟨by decide, by decide⟩) (by rfl) (ch_qb) (by decide) (by decide) (by decide) (by rfl) Old1895) hZ1811 (wi hw 156 rfl) (wi hw 3 rfl) (by decide) (by decide)) (g := (mkF m 255 #[.val (.int sp), .val (.int qc), .val (.int mc), .val (.int lb), .val (.int lq), .val (.int 2), .val (.int 0), .val (.ref a831), .val (.ref a854), .val (.ref ra_1797), .val (.ref ra_1811), .val (.ref a1822), .val (.ref ra_1865), .val (.int 4)] [(.ref a854), (.ref a831), (.int 0), (.int 2), (.int 4), (.int 3), (.ref ra_1865)])) rfl (by rw [hml]; rfl) (argsL := [(.ref ra_1865), (.int 3), (.int 4), (.int 2), (.int 0), (.ref a831), (.ref a854)]) (rest := []) (lenOf pd__Ljava_lang_String_IIII_C_C_Z rfl) rfl (by show 2 * 0 + _ ≤ _; exact Nat.le_of_eq rfl) (hb hby at_255) (fun _ _ => ⟨rfl, K1907, (by decide : 12 + 0 ≤ _), (by decide : 60 + 0 ≤ _)⟩)
     dsimp only [Pt.U, Pt.locs, Pt.cells, Pt.slots] at X1909 l1909 y1909 z1909 st1909 hQ1909
     subst l1909 y1909 z1909
     obtain ⟨rfl, NQ1909, K1909⟩ := hQ1909
     have N1910 := Fr.app N1908 NQ1909
     refine Rch.st (fun _ k => st1909 _ k) ?_
     show Rch p e below T1909 (mkF m 258 #[.val (.int sp), .val (.int qc), .val (.int mc), .val (.int lb), .val (.int lq), .val (.int 2), .val (.int 0), .val (.ref a831), .val (.ref a854), .val (.ref ra_1797), .val (.ref ra_1811), .val (.ref a1822), .val (.ref ra_1865), .val (.int 4)] [(.int 1)]) _
     refine w_ifNo (pc' := 261) X1909 hx hby at_258 (XT.i0_eq_f (by decide)) rfl ?_
     refine w_aload (pc' := 263) X1909 hx hby at_261 rfl rfl rfl ?_
     refine w_iconst (pc' := 264) (v := 4) X1909 hx hby at_263 rfl rfl ?_
     refine w_iload (pc' := 266) X1909 hx hby at_264 rfl rfl ?_
     refine w_iload (pc' := 268) X1909 hx hby at_266 rfl rfl ?_
     refine w_iload (pc' := 270) X1909 hx hby at_268 rfl rfl ?_
     refine w_aload (pc' := 272) X1909 hx hby at_270 rfl rfl rfl ?_
     refine w_aload (pc' := 274) X1909 hx hby at_272 rfl rfl rfl ?_
     obtain ⟨_, _, ⟨T1911, L1911, k1911, n1911⟩, -, X1911, ⟨Lc1911, hQ1911, l1911, y1911, z1911⟩, st1911⟩ := Jvm.LawKit.callS X1909 hx (y := (⟨"com/example/alcance/alcance/IdentifiersQuotedPinLaw", "ok", "(Ljava/lang/String;IIII[C[C)Z"⟩ : MethodName)) hown1811 (mvT hZ1811 (wi hw 154 rfl)) (mvT hZ1811 (wi hw 155 rfl)) (mvT hZ1811 (wi hw 3 rfl)) (mvT hZ1811 (wi hw 156 rfl)) (by decide) (backOf (W := 0) (rm_ok_far l Z a0 hw [] ra_1865 4 4 2 0 a831 a854 T1865.heap h0.size Z1897 (by decide)) hZ1811 (wi hw 156 rfl) (wi hw 3 rfl) (by decide) (by decide)) (g := (mkF m 274 #[.val (.int sp), .val (.int qc), .val (.int mc), .val (.int lb), .val (.int lq), .val (.int 2), .val (.int 0), .val (.ref a831), .val (.ref a854), .val (.ref ra_1797), .val (.ref ra_1811), .val (.ref a1822), .val (.ref ra_1865), .val (.int 4)] [(.ref a854), (.ref a831), (.int 0), (.int 2), (.int 4), (.int 4), (.ref ra_1865)])) rfl (by rw [hml]; rfl) (argsL := [(.ref ra_1865), (.int 4), (.int 4), (.int 2), (.int 0), (.ref a831), (.ref a854)]) (rest := []) (lenOf pd__Ljava_lang_String_IIII_C_C_Z rfl) rfl (by show 2 * 0 + _ ≤ _; exact Nat.le_of_eq rfl) (hb hby at_274) (fun _ _ => ⟨rfl, K1909, (by decide : 12 + 0 ≤ _), (by decide : 60 + 0 ≤ _)⟩)
     dsimp only [Pt.U, Pt.locs, Pt.cells, Pt.slots] at X1911 l1911 y1911 z1911 st1911 hQ1911
     subst l1911 y1911 z1911
     obtain ⟨rfl, NQ1911, K1911⟩ := hQ1911
     have N1912 := Fr.app N1910 NQ1911
     refine Rch.st (fun _ k => st1911 _ k) ?_
     show Rch p e below T1911 (mkF m 277 #[.val (.int sp), .val (.int qc), .val (.int mc), .val (.int lb), .val (.int lq), .val (.int 2), .val (.int 0), .val (.ref a831), .val (.ref a854), .val (.ref ra_1797), .val (.ref ra_1811), .val (.ref a1822), .val (.ref ra_1865), .val (.int 4)] [(.int 1)]) _
     refine w_ifNo (pc' := 280) X1911 hx hby at_277 (XT.i0_eq_f (by decide)) rfl ?_
     refine w_aload (pc' := 282) X1911 hx hby at_280 rfl rfl rfl ?_
     refine w_iconst (pc' := 283) (v := 5) X1911 hx hby at_282 rfl rfl ?_
     refine w_iload (pc' := 285) X1911 hx hby at_283 rfl rfl ?_
     refine w_iload (pc' := 287) X1911 hx hby at_285 rfl rfl ?_
     refine w_iload (pc' := 289) X1911 hx hby at_287 rfl rfl ?_
     refine w_aload (pc' := 291) X1911 hx hby at_289 rfl rfl rfl ?_
     refine w_aload (pc' := 293) X1911 hx hby at_291 rfl rfl rfl ?_
     obtain ⟨_, _, ⟨T1913, L1913, k1913, n1913⟩, -, X1913, ⟨Lc1913, hQ1913, l1913, y1913, z1913⟩, st1913⟩ := Jvm.LawKit.callS X1911 hx (y := (⟨"com/example/alcance/alcance/IdentifiersQuotedPinLaw", "ok", "(Ljava/lang/String;IIII[C[C)Z"⟩ : MethodName)) hown1811 (mvT hZ1811 (wi hw 154 rfl)) (mvT hZ1811 (wi hw 155 rfl)) (mvT hZ1811 (wi hw 3 rfl)) (mvT hZ1811 (wi hw 156 rfl)) (by decide) (backOf (W := 0) (rm_ok_far l Z a0 hw [] ra_1865 5 4 2 0 a831 a854 T1865.heap h0.size Z1897 (by decide)) hZ1811 (wi hw 156 rfl) (wi hw 3 rfl) (by decide) (by decide)) (g := (mkF m 293 #[.val (.int sp), .val (.int qc), .val (.int mc), .val (.int lb), .val (.int lq), .val (.int 2), .val (.int 0), .val (.ref a831), .val (.ref a854), .val (.ref ra_1797), .val (.ref ra_1811), .val (.ref a1822), .val (.ref ra_1865), .val (.int 4)] [(.ref a854), (.ref a831), (.int 0), (.int 2), (.int 4), (.int 5), (.ref ra_1865)])) rfl (by rw [hml]; rfl) (argsL := [(.ref ra_1865), (.int 5), (.int 4), (.int 2), (.int 0), (.ref a831), (.ref a854)]) (rest := []) (lenOf pd__Ljava_lang_String_IIII_C_C_Z rfl) rfl (by show 2 * 0 + _ ≤ _; exact Nat.le_of_eq rfl) (hb hby at_293) (fun _ _ => ⟨rfl, K1911, (by decide : 12 + 0 ≤ _), (by decide : 60 + 0 ≤ _)⟩)
     dsimp only [Pt.U, Pt.locs, Pt.cells, Pt.slots] at X1913 l1913 y1913 z1913 st1913 hQ1913
     subst l1913 y1913 z1913
     obtain ⟨rfl, NQ1913, K1913⟩ := hQ1913
     have N1914 := Fr.app N1912 NQ1913
     refine Rch.st (fun _ k => st1913 _ k) ?_
     show Rch p e below T1913 (mkF m 296 #[.val (.int sp), .val (.int qc), .val (.int mc), .val (.int lb), .val (.int lq), .val (.int 2), .val (.int 0), .val (.ref a831), .val (.ref a854), .val (.ref ra_1797), .val (.ref ra_1811), .val (.ref a1822), .val (.ref ra_1865), .val (.int 4)] [(.int 1)]) _
     refine w_ifNo (pc' := 299) X1913 hx hby at_296 (XT.i0_eq_f (by decide)) rfl ?_
     refine w_aload (pc' := 301) X1913 hx hby at_299 rfl rfl rfl ?_
     refine w_bipush (pc' := 303) (v := 6) X1913 hx hby at_301 rfl rfl ?_
     refine w_iload (pc' := 305) X1913 hx hby at_303 rfl rfl ?_
     refine w_iload (pc' := 307) X1913 hx hby at_305 rfl rfl ?_
     refine w_iload (pc' := 309) X1913 hx hby at_307 rfl rfl ?_
     refine w_aload (pc' := 311) X1913 hx hby at_309 rfl rfl rfl ?_
     refine w_aload (pc' := 313) X1913 hx hby at_311 rfl rfl rfl ?_
     obtain ⟨_, _, ⟨T1915, L1915, k1915, n1915⟩, -, X1915, ⟨Lc1915, hQ1915, l1915, y1915, z1915⟩, st1915⟩ := Jvm.LawKit.callS X1913 hx (y := (⟨"com/example/alcance/alcance/IdentifiersQuotedPinLaw", "ok", "(Ljava/lang/String;IIII[C[C)Z"⟩ : MethodName)) hown1811 (mvT hZ1811 (wi hw 154 rfl)) (mvT hZ1811 (wi hw 155 rfl)) (mvT hZ1811 (wi hw 3 rfl)) (mvT hZ1811 (wi hw 156 rfl)) (by decide) (backOf (W := 0) (rm_ok_far l Z a0 hw [] ra_1865 6 4 2 0 a831 a854 T1865.heap h0.size Z1897 (by decide)) hZ1811 (wi hw 156 rfl) (wi hw 3 rfl) (by decide) (by decide)) (g := (mkF m 313 #[.val (.int sp), .val (.int qc), .val (.int mc), .val (.int lb), .val (.int lq), .val (.int 2), .val (.int 0), .val (.ref a831), .val (.ref a854), .val (.ref ra_1797), .val (.ref ra_1811), .val (.ref a1822), .val (.ref ra_1865), .val (.int 4)] [(.ref a854), (.ref a831), (.int 0), (.int 2), (.int 4), (.int 6), (.ref ra_1865)])) rfl (by rw [hml]; rfl) (argsL := [(.ref ra_1865), (.int 6), (.int 4), (.int 2), (.int 0), (.ref a831), (.ref a854)]) (rest := []) (lenOf pd__Ljava_lang_String_IIII_C_C_Z rfl) rfl (by show 2 * 0 + _ ≤ _; exact Nat.le_of_eq rfl) (hb hby at_313) (fun _ _ => ⟨rfl, K1913, (by decide : 12 + 0 ≤ _), (by decide : 60 + 0 ≤ _)⟩)
     dsimp only [Pt.U, Pt.locs, Pt.cells, Pt.slots] at X1915 l1915 y1915 z1915 st1915 hQ1915
     subst l1915 y1915 z1915
     obtain ⟨rfl, NQ1915, K1915⟩ := hQ1915
     have N1916 := Fr.app N1914 NQ1915
     refine Rch.st (fun _ k => st1915 _ k) ?_
     show Rch p e below T1915 (mkF m 316 #[.val (.int sp), .val (.int qc), .val (.int mc), .val (.int lb), .val (.int lq), .val (.int 2), .val (.int 0), .val (.ref a831), .val (.ref a854), .val (.ref ra_1797), .val (.ref ra_1811), .val (.ref a1822), .val (.ref ra_1865), .val (.int 4)] [(.int 1)]) _
     refine w_ifNo (pc' := 319) X1915 hx hby at_316 (XT.i0_eq_f (by decide)) rfl ?_
     refine w_iconst (pc' := 320) (v := 1) X1915 hx hby at_319 rfl rfl ?_
     refine w_goto (pc' := 324) X1915 hx hby at_320 (by decide) ?_
     exact Rch.retVW X1915 hx hS1811 (by rw [K1915]; exact hk1898) Bd.returns rfl (Or.inl ⟨rfl, by simp, _, rfl⟩) (hb hby at_324) (by rw [K1915]; exact ⟨rfl, (own_Fr Z0 N1916), Kp1896, own_ib_mono (own_ib (s := s.setVm T1811.vm) IQ1811 X1915.warmed) (by decide)⟩) (by decide) (by decide)
    ·skip
     show Rch p e below T1797 (mkF m 129 #[.val (.int sp), .val (.int qc), .val (.int mc), .val (.int lb), .val (.int lq), .val (.int 2), .val (.int 1), .val (.ref a831), .val (.ref a854), .val (.ref ra_1797), .unset, .unset, .unset, .unset] [(.int 0), (.ref a854), (.ref a831), (.int 1)]) _
     obtain ⟨_, _, ⟨T1917, L1917, k1917, n1917⟩, -, X1917, ⟨Lc1917, hQ1917, l1917, y1917, z1917⟩, st1917⟩ := Jvm.LawKit.callS X1797 hx (y := (⟨"com/example/alcance/alcance/IdentifiersQuotedPinLaw", "make", "(I[C[CZ)Ljava/lang/String;"⟩ : MethodName)) hown (mvT hZ (wi hw 1 rfl)) (mvT hZ (wi hw 2 rfl)) (mvT hZ (wi hw 3 rfl)) (mvT hZ (wi hw 4 rfl)) (by decide) (backOf (W := 0) (rm_mk_0_1 l Z a0 hw [] G1 a831 a854 kc854 na nb nc T1797.heap h0.size Z1809 (O2) (P5) f1806 (ch_na) Old1807) hZ (wi hw 4 rfl) (wi hw 3 rfl) (by decide) (by decide)) (g := (mkF m 129 #[.val (.int sp), .val (.int qc), .val (.int mc), .val (.int lb), .val (.int lq), .val (.int 2), .val (.int 1), .val (.ref a831), .val (.ref a854), .val (.ref ra_1797), .unset, .unset, .unset, .unset] [(.int 0), (.ref a854), (.ref a831), (.int 1)])) rfl (by rw [hml]; rfl) (argsL := [(.int 1), (.ref a831), (.ref a854), (.int 0)]) (rest := []) (lenOf pd__I_C_CZ_Ljava_lang_String_ rfl) rfl (by show 2 * 0 + _ ≤ _; exact Nat.le_of_eq rfl) (hb hby at_129) (fun _ _ => ⟨rfl, (rfl : T1797.heap = T1797.heap), (by decide : 5 + 2 ≤ _), (by decide : 13 + 5 ≤ _)⟩)
     dsimp only [Pt.U, Pt.locs, Pt.cells, Pt.slots] at X1917 l1917 y1917 z1917 st1917 hQ1917
     subst l1917 y1917 z1917
     obtain ⟨ra_1917, t_1917, kt_1917, rfl, NQ1917, K1917, pq1917_0, pq1917_1, fq1917_0, fq1917_1, fq1917_2, fq1917_3⟩ := hQ1917
     have N1918 := Fr.app N1798 NQ1917
     have f1929 := f1805.keep K1917 nin0
     have f1930 := f1806.keep K1917 nin0
     have f1931 := fq1797_0.keep K1917
     have f1932 := fq1797_1.keep K1917 nin0
     have f1933 := fq1797_2.keep K1917 nin0
     have f1934 := fq1797_3.keep K1917 nin0
     have Old1935 := Old1807.keep K1917 all0
     have Kp1936 : Keep h0 T1917.heap [] := Kp1808.trans K1917 all0
     have Z1937 := Nat.le_trans Z1809 K1917.1
     have hk1938 := Nat.le_trans hk1810 K1917.1
     refine Rch.st (fun _ k => st1917 _ k) ?_
     show Rch p e below T1917 (mkF m 132 #[.val (.int sp), .val (.int qc), .val (.int mc), .val (.int lb), .val (.int lq), .val (.int 2), .val (.int 1), .val (.ref a831), .val (.ref a854), .val (.ref ra_1797), .unset, .unset, .unset, .unset] [(.ref ra_1917)]) _
     refine w_astore (pc' := 134) (l' := #[.val (.int sp), .val (.int qc), .val (.int mc), .val (.int lb), .val (.int lq), .val (.int 2), .val (.int 1), .val (.ref a831), .val (.ref a854), .val (.ref ra_1797), .val (.ref ra_1917), .unset, .unset, .unset]) X1917 hx hby at_132 rfl rfl rfl ?_
     obtain ⟨T1939, h1939, X1939, e1939, E1939, A1939, D1939, -, st1939⟩ := newO X1917 hx hZ hown (wi hw 13 rfl) (wi hw 14 rfl) (wi hw 15 rfl) (rfl : T1917.heap = T1917.heap) (g := (mkF m 134 #[.val (.int sp), .val (.int qc), .val (.int mc), .val (.int lb), .val (.int lq), .val (.int 2), .val (.int 1), .val (.ref a831), .val (.ref a854), .val (.ref ra_1797), .val (.ref ra_1917), .unset, .unset, .unset] [])) rfl (hb hby at_134) (by decide) (by decide)
     obtain ⟨a1939, g1939⟩ : ∃ z, z = T1917.heap.size := ⟨_, rfl⟩
     rw [← g1939] at A1939 D1939 st1939
     have ne1940 : a831 ≠ a1939 := by rw [g1939]; exact Nat.ne_of_lt f1929.lt
     have ne1941 : a854 ≠ a1939 := by rw [g1939]; exact Nat.ne_of_lt f1930.lt
     have ne1942 : ra_1797 ≠ a1939 := by rw [g1939]; exact Nat.ne_of_lt f1931.lt
     have ne1943 : ra_1917 ≠ a1939 := by rw [g1939]; exact Nat.ne_of_lt fq1917_0.lt
     have ne1944 : t_1797 ≠ a1939 := by rw [g1939]; exact Nat.ne_of_lt f1934.lt
     have ne1945 : t_1917 ≠ a1939 := by rw [g1939]; exact Nat.ne_of_lt fq1917_3.lt
     have ge1946 : h0.size ≤ a1939 := Nat.le_trans Z1937 (Nat.le_of_eq g1939.symm)
     have hk1948 := Nat.le_trans hk1938 E1939.1
     have f1949 := f1929.ext E1939
     have f1950 := f1930.ext E1939
     have f1951 := f1931.ext E1939
     have f1952 := f1932.ext E1939
     have f1953 := f1933.ext E1939
     have f1954 := f1934.ext E1939
     have f1955 := fq1917_0.ext E1939
     have f1956 := fq1917_1.ext E1939
     have f1957 := fq1917_2.ext E1939
     have f1958 := fq1917_3.ext E1939
     have Old1959 := Old1935.ext E1939
     have Z1960 := Nat.le_trans Z1937 E1939.1
     have Kp1961 : Keep h0 h1939 [] := Kp1936.ext E1939
     have f1962 : Fld Z h1939 a1939 "com/example/alcance/alcance/Identifiers" "lowersBare" "Z" (.int (0 : Int32)) := D1939 (Or.inr (wi hw 28 rfl)) (ty := .boolean) (by decide)
     have f1963 : Fld Z h1939 a1939 "com/example/alcance/alcance/Identifiers" "lowersQuoted" "Z" (.int (0 : Int32)) := D1939 (Or.inr (wi hw 30 rfl)) (ty := .boolean) (by decide)
     have f1964 : Fld Z h1939 a1939 "com/example/alcance/alcance/Identifiers" "quote" "Ljava/lang/String;" .null := D1939 (Or.inr (wi hw 32 rfl)) (ty := (.object "java/lang/String")) (by decide)
     refine Rch.st (fun _ k => st1939 _ k) ?_
     show Rch p e below T1939 (mkF m 137 #[.val (.int sp), .val (.int qc), .val (.int mc), .val (.int lb), .val (.int lq), .val (.int 2), .val (.int 1), .val (.ref a831), .val (.ref a854), .val (.ref ra_1797), .val (.ref ra_1917), .unset, .unset, .unset] [(.ref a1939)]) _
     refine w_dup (pc' := 138) X1939 hx hby at_137 rfl rfl ?_
     refine w_iloadN (pc' := 139) X1939 hx hby at_138 rfl rfl ?_
     refine w_iload (pc' := 141) X1939 hx hby at_139 rfl rfl ?_
     refine w_aload (pc' := 143) X1939 hx hby at_141 rfl rfl rfl ?_
     obtain ⟨_, _, ⟨T1965, L1965, k1965, n1965⟩, -, X1965, ⟨Lc1965, hQ1965, l1965, y1965, z1965⟩, st1965⟩ := X1939.specialBack hx (y := (⟨"com/example/alcance/alcance/Identifiers", "<init>", "(ZZLjava/lang/String;)V"⟩ : MethodName)) rfl hown (mvT hZ (wi hw 16 rfl)) (mvT hZ (wi hw 17 rfl)) (mvT hZ (wi hw 18 rfl)) (by decide) (backOf (W := 1) (rm_id l Z a0 hw [] a1939 lb lq ra_1797 h1939 h0.size Z1960 A1939 f1962 f1963 f1964 (ge1946) (hlb) (hlq)) hZ (wi hw 18 rfl) (wi hw 15 rfl) (by decide) (by decide)) (g := (mkF m 143 #[.val (.int sp), .val (.int qc), .val (.int mc), .val (.int lb), .val (.int lq), .val (.int 2), .val (.int 1), .val (.ref a831), .val (.ref a854), .val (.ref ra_1797), .val (.ref ra_1917), .unset, .unset, .unset] [(.ref ra_1797), (.int lq), (.int lb), (.ref a1939), (.ref a1939)])) rfl (by rw [hml]; rfl) (Steps.refl _) (a := a1939) (argsL := [(.int lb), (.int lq), (.ref ra_1797)]) (rest := [(.ref a1939)]) (lenOf pd__ZZLjava_lang_String__V rfl) rfl (by show 2 * 0 + _ ≤ _; exact Nat.le_of_eq rfl) (hb hby at_143) (fun _ _ => ⟨rfl, e1939, (by decide : 8 + 0 ≤ _), (by decide : 21 + 0 ≤ _)⟩)
     dsimp only [Pt.U, Pt.locs, Pt.cells, Pt.slots] at X1965 l1965 y1965 z1965 st1965 hQ1965
     subst l1965 y1965 z1965
     obtain ⟨rfl, NQ1965, K1965, fq1965_0⟩ := hQ1965
     have N1966 := Fr.app N1918 NQ1965
     have f1967 := f1949.keep K1965 (ninS ne1940 nin0)
     have f1968 := f1950.keep K1965 (ninS ne1941 nin0)
     have f1969 := f1951.keep K1965
     have f1970 := f1952.keep K1965 (ninS ne1942 nin0)
     have f1971 := f1953.keep K1965 (ninS ne1942 nin0)
     have f1972 := f1954.keep K1965 (ninS ne1944 nin0)
     have f1973 := f1955.keep K1965
     have f1974 := f1956.keep K1965 (ninS ne1943 nin0)
     have f1975 := f1957.keep K1965 (ninS ne1943 nin0)
     have f1976 := f1958.keep K1965 (ninS ne1945 nin0)
     have f1977 := A1939.keep K1965
     have Old1978 := Old1959.keep K1965 (allS ge1946 all0)
     have Kp1979 : Keep h0 T1965.heap [] := Kp1961.trans K1965 (allS (Or.inr (Nat.le_trans Kp1936.1 (Nat.le_of_eq g1939.symm))) all0)
     have Z1980 := Nat.le_trans Z1960 K1965.1
     have hk1981 := Nat.le_trans hk1948 K1965.1
     refine Rch.st (fun _ k => st1965.trans k) ?_
     show Rch p e below T1965 (mkF m 146 #[.val (.int sp), .val (.int qc), .val (.int mc), .val (.int lb), .val (.int lq), .val (.int 2), .val (.int 1), .val (.ref a831), .val (.ref a854), .val (.ref ra_1797), .val (.ref ra_1917), .unset, .unset, .unset] [(.ref a1939)]) _
     refine w_astore (pc' := 148) (l' := #[.val (.int sp), .val (.int qc), .val (.int mc), .val (.int lb), .val (.int lq), .val (.int 2), .val (.int 1), .val (.ref a831), .val (.ref a854), .val (.ref ra_1797), .val (.ref ra_1917), .val (.ref a1939), .unset, .unset]) X1965 hx hby at_146 rfl rfl rfl ?_
     refine w_aload (pc' := 150) X1965 hx hby at_148 rfl rfl rfl ?_
     refine w_aload (pc' := 152) X1965 hx hby at_150 rfl rfl rfl ?_
     obtain ⟨cq1982, kq1982, q1982a, q1982b, q1982c⟩ := isOf hZ (rfl : T1965.heap = T1965.heap) f1977
     obtain ⟨_, _, ⟨T1982, L1982, k1982, n1982⟩, -, X1982, ⟨Lc1982, hQ1982, l1982, y1982, z1982⟩, st1982⟩ := X1965.virtualBack hx (y := (⟨"com/example/alcance/alcance/Identifiers", "quoted", "(Ljava/lang/String;)Ljava/lang/String;"⟩ : MethodName)) (z := (⟨"com/example/alcance/alcance/Identifiers", "quoted", "(Ljava/lang/String;)Ljava/lang/String;"⟩ : MethodName)) hown (mvT hZ (wi hw 33 rfl)) (mvT hZ (wi hw 34 rfl)) (notFace_of_selects (args := #[]) (mvT hZ (wi hw 36 rfl))) (mvT hZ (wi hw 36 rfl)) (mvT hZ (wi hw 35 rfl)) (by decide) (backOf (W := 0) (rm_qu l Z a0 hw [] G1 a1939 ra_1797 t_1797 kt_1797 2 ([(.int (own_by qa)), (.int (own_by qb))]) (.int 0) ra_1917 t_1917 kt_1917 1 ([(.int (own_by na))]) (.int 0) T1965.heap h0.size Z1980 (O2) (P5) fq1965_0 f1969 f1970 f1971 f1972 f1973 f1974 f1975 f1976 (by decide) (by decide) (by decide) (by decide) (by decide) (by decide) (by decide) (by decide) (by decide) (by decide) (by decide) (by decide) (by decide) (by decide) Old1978) hZ (wi hw 37 rfl) (wi hw 15 rfl) (by decide) (by decide)) q1982a q1982c (g := (mkF m 152 #[.val (.int sp), .val (.int qc), .val (.int mc), .val (.int lb), .val (.int lq), .val (.int 2), .val (.int 1), .val (.ref a831), .val (.ref a854), .val (.ref ra_1797), .val (.ref ra_1917), .val (.ref a1939), .unset, .unset] [(.ref ra_1917), (.ref a1939)])) rfl (by rw [hml]; rfl) (Steps.refl _) (argsL := [(.ref ra_1917)]) (rest := []) (lenOf pd__Ljava_lang_String__Ljava_lang_String_ rfl) rfl (by show 2 * 0 + _ ≤ _; exact Nat.le_of_eq rfl) (hb hby at_152) (fun _ _ => ⟨rfl, (rfl : T1965.heap = T1965.heap), (by decide : 8 + 4 ≤ _), (by decide : 21 + 40 ≤ _)⟩)
     dsimp only [Pt.U, Pt.locs, Pt.cells, Pt.slots] at X1982 l1982 y1982 z1982 st1982 hQ1982
     subst l1982 y1982 z1982
     obtain ⟨ra_1982, t_1982, kt_1982, rfl, NQ1982, K1982, pq1982_0, pq1982_1, fq1982_0, fq1982_1, fq1982_2, fq1982_3⟩ := hQ1982
     have N1983 := Fr.app N1966 NQ1982
     have f2000 := f1967.keep K1982 nin0
     have f2001 := f1968.keep K1982 nin0
     have Old2012 := Old1978.keep K1982 all0
     have Kp2013 : Keep h0 T1982.heap [] := Kp1979.trans K1982 all0
     have Z2014 := Nat.le_trans Z1980 K1982.1
     have hk2015 := Nat.le_trans hk1981 K1982.1
     refine Rch.st (fun _ k => st1982.trans k) ?_
     show Rch p e below T1982 (mkF m 155 #[.val (.int sp), .val (.int qc), .val (.int mc), .val (.int lb), .val (.int lq), .val (.int 2), .val (.int 1), .val (.ref a831), .val (.ref a854), .val (.ref ra_1797), .val (.ref ra_1917), .val (.ref a1939), .unset, .unset] [(.ref ra_1982)]) _
     have f2016 : Arv Z T1982.heap t_1982 kt_1982 .byte (5 : Int32) [(.int (own_by qa)), (.int (own_by qb)), (.int (own_by na)), (.int (own_by qa)), (.int (own_by qb))] (.int (0 : Int32)) := by have z := fq1982_3; rw [show ((((0 : Int32) + (2 : Int32)) + (1 : Int32)) + (2 : Int32)) = (5 : Int32) from by decide, own_cat, own_t2, own_t1] at z; exact z
     refine w_astore (pc' := 157) (l' := #[.val (.int sp), .val (.int qc), .val (.int mc), .val (.int lb), .val (.int lq), .val (.int 2), .val (.int 1), .val (.ref a831), .val (.ref a854), .val (.ref ra_1797), .val (.ref ra_1917), .val (.ref a1939), .val (.ref ra_1982), .unset]) X1982 hx hby at_155 rfl rfl rfl ?_
     refine w_aload (pc' := 159) X1982 hx hby at_157 rfl rfl rfl ?_
     refine w_nonnullYes (pc' := 164) X1982 hx hby at_159 rfl (fun q => nomatch q) (by decide) ?_
     refine w_iconst (pc' := 165) (v := 2) X1982 hx hby at_164 rfl rfl ?_
     refine w_iload (pc' := 167) X1982 hx hby at_165 rfl rfl ?_
     refine w_imul (pc' := 168) X1982 hx hby at_167 rfl ?_
     refine w_iload (pc' := 170) X1982 hx hby at_168 rfl rfl ?_
     refine w_iadd (pc' := 171) X1982 hx hby at_170 rfl ?_
     have r2017 : (((2 : Int32) * (2 : Int32)) + (1 : Int32)) = (5 : Int32) := by decide
     rw [r2017]
     show Rch p e below T1982 (mkF m 171 #[.val (.int sp), .val (.int qc), .val (.int mc), .val (.int lb), .val (.int lq), .val (.int 2), .val (.int 1), .val (.ref a831), .val (.ref a854), .val (.ref ra_1797), .val (.ref ra_1917), .val (.ref a1939), .val (.ref ra_1982), .unset] [(.int 5)]) _
     refine w_istore (pc' := 173) (l' := #[.val (.int sp), .val (.int qc), .val (.int mc), .val (.int lb), .val (.int lq), .val (.int 2), .val (.int 1), .val (.ref a831), .val (.ref a854), .val (.ref ra_1797), .val (.ref ra_1917), .val (.ref a1939), .val (.ref ra_1982), .val (.int 5)]) X1982 hx hby at_171 rfl rfl ?_
     refine w_aload (pc' := 175) X1982 hx hby at_173 rfl rfl rfl ?_
     obtain ⟨cq2018, kq2018, q2018a, q2018b, q2018c⟩ := isOf hZ (rfl : T1982.heap = T1982.heap) fq1982_0
     obtain ⟨_, _, ⟨T2018, L2018, k2018, n2018⟩, -, X2018, ⟨Lc2018, hQ2018, l2018, y2018, z2018⟩, st2018⟩ := X1982.virtualBack hx (y := (⟨"java/lang/String", "length", "()I"⟩ : MethodName)) (z := (⟨"java/lang/String", "length", "()I"⟩ : MethodName)) hown (mvT hZ (wi hw 153 rfl)) (mvT hZ (wi hw 67 rfl)) (notFace_of_selects (args := #[]) (mvT hZ (wi hw 69 rfl))) (mvT hZ (wi hw 69 rfl)) (mvT hZ (wi hw 68 rfl)) (by decide) (backOf (W := 0) (rm_length l Z a0 hw [] G1 ra_1982 0 t_1982 kt_1982 5 ([(.int (own_by qa)), (.int (own_by qb)), (.int (own_by na)), (.int (own_by qa)), (.int (own_by qb))]) (.int 0) T1982.heap h0.size Z2014 (O2) (P5) fq1982_1 (Or.inl rfl) fq1982_2 f2016 fq1982_0 Old2012) hZ (wi hw 70 rfl) (wi hw 6 rfl) (by decide) (by decide)) q2018a q2018c (g := (mkF m 175 #[.val (.int sp), .val (.int qc), .val (.int mc), .val (.int lb), .val (.int lq), .val (.int 2), .val (.int 1), .val (.ref a831), .val (.ref a854), .val (.ref ra_1797), .val (.ref ra_1917), .val (.ref a1939), .val (.ref ra_1982), .val (.int 5)] [(.ref ra_1982)])) rfl (by rw [hml]; rfl) (Steps.refl _) (argsL := []) (rest := []) (lenOf pd___I rfl) rfl (by show 2 * 0 + _ ≤ _; exact Nat.le_of_eq rfl) (hb hby at_175) (fun _ _ => ⟨rfl, (rfl : T1982.heap = T1982.heap), (by decide : 12 + 0 ≤ _), (by decide : 61 + 0 ≤ _)⟩)
     dsimp only [Pt.U, Pt.locs, Pt.cells, Pt.slots] at X2018 l2018 y2018 z2018 st2018 hQ2018
     subst l2018 y2018 z2018
     obtain ⟨rfl, NQ2018, K2018⟩ := hQ2018
     have N2019 := Fr.app N1983 NQ2018
     refine Rch.st (fun _ k => st2018.trans k) ?_
     show Rch p e below T2018 (mkF m 178 #[.val (.int sp), .val (.int qc), .val (.int mc), .val (.int lb), .val (.int lq), .val (.int 2), .val (.int 1), .val (.ref a831), .val (.ref a854), .val (.ref ra_1797), .val (.ref ra_1917), .val (.ref a1939), .val (.ref ra_1982), .val (.int 5)] [(.int ((5 : Int32) >>> ((0 : Int32) &&& 31)))]) _
     refine w_iload (pc' := 180) X2018 hx hby at_178 rfl rfl ?_
     refine w_icmpYes (pc' := 185) X2018 hx hby at_180 (XT.ii_eq_t (by decide)) (by decide) ?_
     refine w_aload (pc' := 187) X2018 hx hby at_185 rfl rfl rfl ?_
     refine w_iconst (pc' := 188) (v := 0) X2018 hx hby at_187 rfl rfl ?_
     refine w_iload (pc' := 190) X2018 hx hby at_188 rfl rfl ?_
     refine w_iload (pc' := 192) X2018 hx hby at_190 rfl rfl ?_
     refine w_iload (pc' := 194) X2018 hx hby at_192 rfl rfl ?_
     refine w_aload (pc' := 196) X2018 hx hby at_194 rfl rfl rfl ?_
     refine w_aload (pc' := 198) X2018 hx hby at_196 rfl rfl rfl ?_
     obtain ⟨_, _, ⟨T2020, L2020, k2020, n2020⟩, -, X2020, ⟨Lc2020, hQ2020, l2020, y2020, z2020⟩, st2020⟩ := Jvm.LawKit.callS X2018 hx (y := (⟨"com/example/alcance/alcance/IdentifiersQuotedPinLaw", "ok", "(Ljava/lang/String;IIII[C[C)Z"⟩ : MethodName)) hown (mvT hZ (wi hw 154 rfl)) (mvT hZ (wi hw 155 rfl)) (mvT hZ (wi hw 3 rfl)) (mvT hZ (wi hw 156 rfl)) (by decide) (backOf (W := 0) (rm_ok_A l Z a0 hw [] G1 G3 ra_1982 t_1982 kt_1982 5 ([(.int (own_by qa)), (.int (own_by qb)), (.int (own_by na)), (.int (own_by qa)), (.int (own_by qb))]) (.int 0) 0 2 1 a831 kc831 ([(.int qa), (.int qb)]) (.int 0) a854 kc854 ([(.int na), (.int nb), (.int nc)]) (.int 0) qa 5 T1982.heap h0.size Z2014 (O2) (P5) (O4) (rG3) fq1982_0 fq1982_1 fq1982_2 f2016 f2000 f2001 (by decide) (⟨by decide, by decide⟩) (by rfl) (ch_qa) (by decide) (by decide) (by decide) (by rfl) Old2012) hZ (wi hw 156 rfl) (wi hw 3 rfl) (by decide) (by decide)) (g := (mkF m 198 #[.val (.int sp), .val (.int qc), .val (.int mc), .val (.int lb), .val (.int lq), .val (.int 2), .val (.int 1), .val (.ref a831), .val (.ref a854), .val (.ref ra_1797), .val (.ref ra_1917), .val (.ref a1939), .val (.ref ra_1982), .val (.int 5)] [(.ref a854), (.ref a831), (.int 1), (.int 2), (.int 5), (.int 0), (.ref ra_1982)])) rfl (by rw [hml]; rfl) (argsL := [(.ref ra_1982), (.int 0), (.int 5), (.int 2), (.int 1), (.ref a831), (.ref a854)]) (rest := []) (lenOf pd__Ljava_lang_String_IIII_C_C_Z rfl) rfl (by show 2 * 0 + _ ≤ _; exact Nat.le_of_eq rfl) (hb hby at_198) (fun _ _ => ⟨rfl, K2018, (by decide : 12 + 0 ≤ _), (by decide : 61 + 0 ≤ _)⟩)
     dsimp only [Pt.U, Pt.locs, Pt.cells, Pt.slots] at X2020 l2020 y2020 z2020 st2020 hQ2020
     subst l2020 y2020 z2020
     obtain ⟨rfl, NQ2020, K2020⟩ := hQ2020
     have N2021 := Fr.app N2019 NQ2020
     refine Rch.st (fun _ k => st2020 _ k) ?_
     show Rch p e below T2020 (mkF m 201 #[.val (.int sp), .val (.int qc), .val (.int mc), .val (.int lb), .val (.int lq), .val (.int 2), .val (.int 1), .val (.ref a831), .val (.ref a854), .val (.ref ra_1797), .val (.ref ra_1917), .val (.ref a1939), .val (.ref ra_1982), .val (.int 5)] [(.int 1)]) _
     refine w_ifNo (pc' := 204) X2020 hx hby at_201 (XT.i0_eq_f (by decide)) rfl ?_
     refine w_aload (pc' := 206) X2020 hx hby at_204 rfl rfl rfl ?_
     refine w_iconst (pc' := 207) (v := 1) X2020 hx hby at_206 rfl rfl ?_
     refine w_iload (pc' := 209) X2020 hx hby at_207 rfl rfl ?_
     refine w_iload (pc' := 211) X2020 hx hby at_209 rfl rfl ?_
     refine w_iload (pc' := 213) X2020 hx hby at_211 rfl rfl ?_
     refine w_aload (pc' := 215) X2020 hx hby at_213 rfl rfl rfl ?_
     refine w_aload (pc' := 217) X2020 hx hby at_215 rfl rfl rfl ?_
     obtain ⟨_, _, ⟨T2022, L2022, k2022, n2022⟩, -, X2022, ⟨Lc2022, hQ2022, l2022, y2022, z2022⟩, st2022⟩ := Jvm.LawKit.callS X2020 hx (y := (⟨"com/example/alcance/alcance/IdentifiersQuotedPinLaw", "ok", "(Ljava/lang/String;IIII[C[C)Z"⟩ : MethodName)) hown (mvT hZ (wi hw 154 rfl)) (mvT hZ (wi hw 155 rfl)) (mvT hZ (wi hw 3 rfl)) (mvT hZ (wi hw 156 rfl)) (by decide) (backOf (W := 0) (rm_ok_A l Z a0 hw [] G1 G3 ra_1982 t_1982 kt_1982 5 ([(.int (own_by qa)), (.int (own_by qb)), (.int (own_by na)), (.int (own_by qa)), (.int (own_by qb))]) (.int 0) 1 2 1 a831 kc831 ([(.int qa), (.int qb)]) (.int 0) a854 kc854 ([(.int na), (.int nb), (.int nc)]) (.int 0) qb 5 T1982.heap h0.size Z2014 (O2) (P5) (O4) (rG3) fq1982_0 fq1982_1 fq1982_2 f2016 f2000 f2001 (by decide) (⟨by decide, by decide⟩) (by rfl) (ch_qb) (by decide) (by decide) (by decide) (by rfl) Old2012) hZ (wi hw 156 rfl) (wi hw 3 rfl) (by decide) (by decide)) (g := (mkF m 217 #[.val (.int sp), .val (.int qc), .val (.int mc), .val (.int lb), .val (.int lq), .val (.int 2), .val (.int 1), .val (.ref a831), .val (.ref a854), .val (.ref ra_1797), .val (.ref ra_1917), .val (.ref a1939), .val (.ref ra_1982), .val (.int 5)] [(.ref a854), (.ref a831), (.int 1), (.int 2), (.int 5), (.int 1), (.ref ra_1982)])) rfl (by rw [hml]; rfl) (argsL := [(.ref ra_1982), (.int 1), (.int 5), (.int 2), (.int 1), (.ref a831), (.ref a854)]) (rest := []) (lenOf pd__Ljava_lang_String_IIII_C_C_Z rfl) rfl (by show 2 * 0 + _ ≤ _; exact Nat.le_of_eq rfl) (hb hby at_217) (fun _ _ => ⟨rfl, K2020, (by decide : 12 + 0 ≤ _), (by decide : 61 + 0 ≤ _)⟩)
     dsimp only [Pt.U, Pt.locs, Pt.cells, Pt.slots] at X2022 l2022 y2022 z2022 st2022 hQ2022
     subst l2022 y2022 z2022
     obtain ⟨rfl, NQ2022, K2022⟩ := hQ2022
     have N2023 := Fr.app N2021 NQ2022
     refine Rch.st (fun _ k => st2022 _ k) ?_
     show Rch p e below T2022 (mkF m 220 #[.val (.int sp), .val (.int qc), .val (.int mc), .val (.int lb), .val (.int lq), .val (.int 2), .val (.int 1), .val (.ref a831), .val (.ref a854), .val (.ref ra_1797), .val (.ref ra_1917), .val (.ref a1939), .val (.ref ra_1982), .val (.int 5)] [(.int 1)]) _
     refine w_ifNo (pc' := 223) X2022 hx hby at_220 (XT.i0_eq_f (by decide)) rfl ?_
     refine w_aload (pc' := 225) X2022 hx hby at_223 rfl rfl rfl ?_
     refine w_iconst (pc' := 226) (v := 2) X2022 hx hby at_225 rfl rfl ?_
     refine w_iload (pc' := 228) X2022 hx hby at_226 rfl rfl ?_
     refine w_iload (pc' := 230) X2022 hx hby at_228 rfl rfl ?_
     refine w_iload (pc' := 232) X2022 hx hby at_230 rfl rfl ?_
     refine w_aload (pc' := 234) X2022 hx hby at_232 rfl rfl rfl ?_
     refine w_aload (pc' := 236) X2022 hx hby at_234 rfl rfl rfl ?_
     obtain ⟨_, _, ⟨T2024, L2024, k2024, n2024⟩, -, X2024, ⟨Lc2024, hQ2024, l2024, y2024, z2024⟩, st2024⟩ := Jvm.LawKit.callS X2022 hx (y := (⟨"com/example/alcance/alcance/IdentifiersQuotedPinLaw", "ok", "(Ljava/lang/String;IIII[C[C)Z"⟩ : MethodName)) hown (mvT hZ (wi hw 154 rfl)) (mvT hZ (wi hw 155 rfl)) (mvT hZ (wi hw 3 rfl)) (mvT hZ (wi hw 156 rfl)) (by decide) (backOf (W := 0) (rm_ok_B l Z a0 hw [] G1 G3 ra_1982 t_1982 kt_1982 5 ([(.int (own_by qa)), (.int (own_by qb)), (.int (own_by na)), (.int (own_by qa)), (.int (own_by qb))]) (.int 0) 2 2 1 a831 kc831 ([(.int qa), (.int qb)]) (.int 0) a854 kc854 ([(.int na), (.int nb), (.int nc)]) (.int 0) na 5 T1982.heap h0.size Z2014 (O2) (P5) (O4) (rG3) fq1982_0 fq1982_1 fq1982_2 f2016 f2000 f2001 (by decide) (by decide) (⟨by decide, by decide⟩) (by rfl) (ch_na) (by decide) (by decide) (by decide) (by rfl) Old2012) hZ (wi hw 156 rfl) (wi hw 3 rfl) (by decide) (by decide)) (g := (mkF m 236 #[.val (.int sp), .val (.int qc), .val (.int mc), .val (.int lb), .val (.int lq), .val (.int 2), .val (.int 1), .val (.ref a831), .val (.ref a854), .val (.ref ra_1797), .val (.ref ra_1917), .val (.ref a1939), .val (.ref ra_1982), .val (.int 5)] [(.ref a854), (.ref a831), (.int 1), (.int 2), (.int 5), (.int 2), (.ref ra_1982)])) rfl (by rw [hml]; rfl) (argsL := [(.ref ra_1982), (.int 2), (.int 5), (.int 2), (.int 1), (.ref a831), (.ref a854)]) (rest := []) (lenOf pd__Ljava_lang_String_IIII_C_C_Z rfl) rfl (by show 2 * 0 + _ ≤ _; exact Nat.le_of_eq rfl) (hb hby at_236) (fun _ _ => ⟨rfl, K2022, (by decide : 12 + 0 ≤ _), (by decide : 61 + 0 ≤ _)⟩)
     dsimp only [Pt.U, Pt.locs, Pt.cells, Pt.slots] at X2024 l2024 y2024 z2024 st2024 hQ2024
     subst l2024 y2024 z2024
     obtain ⟨rfl, NQ2024, K2024⟩ := hQ2024
     have N2025 := Fr.app N2023 NQ2024
     refine Rch.st (fun _ k => st2024 _ k) ?_
     show Rch p e below T2024 (mkF m 239 #[.val (.int sp), .val (.int qc), .val (.int mc), .val (.int lb), .val (.int lq), .val (.int 2), .val (.int 1), .val (.ref a831), .val (.ref a854), .val (.ref ra_1797), .val (.ref ra_1917), .val (.ref a1939), .val (.ref ra_1982), .val (.int 5)] [(.int 1)]) _
     refine w_ifNo (pc' := 242) X2024 hx hby at_239 (XT.i0_eq_f (by decide)) rfl ?_
     refine w_aload (pc' := 244) X2024 hx hby at_242 rfl rfl rfl ?_
     refine w_iconst (pc' := 245) (v := 3) X2024 hx hby at_244 rfl rfl ?_
     refine w_iload (pc' := 247) X2024 hx hby at_245 rfl rfl ?_
     refine w_iload (pc' := 249) X2024 hx hby at_247 rfl rfl ?_
     refine w_iload (pc' := 251) X2024 hx hby at_249 rfl rfl ?_
     refine w_aload (pc' := 253) X2024 hx hby at_251 rfl rfl rfl ?_
     refine w_aload (pc' := 255) X2024 hx hby at_253 rfl rfl rfl ?_
     obtain ⟨_, _, ⟨T2026, L2026, k2026, n2026⟩, -, X2026, ⟨Lc2026, hQ2026, l2026, y2026, z2026⟩, st2026⟩ := Jvm.LawKit.callS X2024 hx (y := (⟨"com/example/alcance/alcance/IdentifiersQuotedPinLaw", "ok", "(Ljava/lang/String;IIII[C[C)Z"⟩ : MethodName)) hown (mvT hZ (wi hw 154 rfl)) (mvT hZ (wi hw 155 rfl)) (mvT hZ (wi hw 3 rfl)) (mvT hZ (wi hw 156 rfl)) (by decide) (backOf (W := 0) (rm_ok_C l Z a0 hw [] G1 G3 ra_1982 t_1982 kt_1982 5 ([(.int (own_by qa)), (.int (own_by qb)), (.int (own_by na)), (.int (own_by qa)), (.int (own_by qb))]) (.int 0) 3 2 1 a831 kc831 ([(.int qa), (.int qb)]) (.int 0) a854 kc854 ([(.int na), (.int nb), (.int nc)]) (.int 0) qa 5 T1982.heap h0.size Z2014 (O2) (P5) (O4) (rG3) fq1982_0 fq1982_1 fq1982_2 f2016 f2000 f2001 (by decide) (by decide) (⟨by decide, by decide⟩) (by rfl) (ch_qa) (by decide) (by decide) (by decide) (by rfl) Old2012) hZ (wi hw 156 rfl) (wi hw 3 rfl) (by decide) (by decide)) (g := (mkF m 255 #[.val (.int sp), .val (.int qc), .val (.int mc), .val (.int lb), .val (.int lq), .val (.int 2), .val (.int 1), .val (.ref a831), .val (.ref a854), .val (.ref ra_1797), .val (.ref ra_1917), .val (.ref a1939), .val (.ref ra_1982), .val (.int 5)] [(.ref a854), (.ref a831), (.int 1), (.int 2), (.int 5), (.int 3), (.ref ra_1982)])) rfl (by rw [hml]; rfl) (argsL := [(.ref ra_1982), (.int 3), (.int 5), (.int 2), (.int 1), (.ref a831), (.ref a854)]) (rest := []) (lenOf pd__Ljava_lang_String_IIII_C_C_Z rfl) rfl (by show 2 * 0 + _ ≤ _; exact Nat.le_of_eq rfl) (hb hby at_255) (fun _ _ => ⟨rfl, K2024, (by decide : 12 + 0 ≤ _), (by decide : 61 + 0 ≤ _)⟩)
     dsimp only [Pt.U, Pt.locs, Pt.cells, Pt.slots] at X2026 l2026 y2026 z2026 st2026 hQ2026
     subst l2026 y2026 z2026
     obtain ⟨rfl, NQ2026, K2026⟩ := hQ2026
     have N2027 := Fr.app N2025 NQ2026
     refine Rch.st (fun _ k => st2026 _ k) ?_
     show Rch p e below T2026 (mkF m 258 #[.val (.int sp), .val (.int qc), .val (.int mc), .val (.int lb), .val (.int lq), .val (.int 2), .val (.int 1), .val (.ref a831), .val (.ref a854), .val (.ref ra_1797), .val (.ref ra_1917), .val (.ref a1939), .val (.ref ra_1982), .val (.int 5)] [(.int 1)]) _
     refine w_ifNo (pc' := 261) X2026 hx hby at_258 (XT.i0_eq_f (by decide)) rfl ?_
     refine w_aload (pc' := 263) X2026 hx hby at_261 rfl rfl rfl ?_
     refine w_iconst (pc' := 264) (v := 4) X2026 hx hby at_263 rfl rfl ?_
     refine w_iload (pc' := 266) X2026 hx hby at_264 rfl rfl ?_
     refine w_iload (pc' := 268) X2026 hx hby at_266 rfl rfl ?_
     refine w_iload (pc' := 270) X2026 hx hby at_268 rfl rfl ?_
     refine w_aload (pc' := 272) X2026 hx hby at_270 rfl rfl rfl ?_
     refine w_aload (pc' := 274) X2026 hx hby at_272 rfl rfl rfl ?_
     obtain ⟨_, _, ⟨T2028, L2028, k2028, n2028⟩, -, X2028, ⟨Lc2028, hQ2028, l2028, y2028, z2028⟩, st2028⟩ := Jvm.LawKit.callS X2026 hx (y := (⟨"com/example/alcance/alcance/IdentifiersQuotedPinLaw", "ok", "(Ljava/lang/String;IIII[C[C)Z"⟩ : MethodName)) hown (mvT hZ (wi hw 154 rfl)) (mvT hZ (wi hw 155 rfl)) (mvT hZ (wi hw 3 rfl)) (mvT hZ (wi hw 156 rfl)) (by decide) (backOf (W := 0) (rm_ok_C l Z a0 hw [] G1 G3 ra_1982 t_1982 kt_1982 5 ([(.int (own_by qa)), (.int (own_by qb)), (.int (own_by na)), (.int (own_by qa)), (.int (own_by qb))]) (.int 0) 4 2 1 a831 kc831 ([(.int qa), (.int qb)]) (.int 0) a854 kc854 ([(.int na), (.int nb), (.int nc)]) (.int 0) qb 5 T1982.heap h0.size Z2014 (O2) (P5) (O4) (rG3) fq1982_0 fq1982_1 fq1982_2 f2016 f2000 f2001 (by decide) (by decide) (⟨by decide, by decide⟩) (by rfl) (ch_qb) (by decide) (by decide) (by decide) (by rfl) Old2012) hZ (wi hw 156 rfl) (wi hw 3 rfl) (by decide) (by decide)) (g := (mkF m 274 #[.val (.int sp), .val (.int qc), .val (.int mc), .val (.int lb), .val (.int lq), .val (.int 2), .val (.int 1), .val (.ref a831), .val (.ref a854), .val (.ref ra_1797), .val (.ref ra_1917), .val (.ref a1939), .val (.ref ra_1982), .val (.int 5)] [(.ref a854), (.ref a831), (.int 1), (.int 2), (.int 5), (.int 4), (.ref ra_1982)])) rfl (by rw [hml]; rfl) (argsL := [(.ref ra_1982), (.int 4), (.int 5), (.int 2), (.int 1), (.ref a831), (.ref a854)]) (rest := []) (lenOf pd__Ljava_lang_String_IIII_C_C_Z rfl) rfl (by show 2 * 0 + _ ≤ _; exact Nat.le_of_eq rfl) (hb hby at_274) (fun _ _ => ⟨rfl, K2026, (by decide : 12 + 0 ≤ _), (by decide : 61 + 0 ≤ _)⟩)
     dsimp only [Pt.U, Pt.locs, Pt.cells, Pt.slots] at X2028 l2028 y2028 z2028 st2028 hQ2028
     subst l2028 y2028 z2028
     obtain ⟨rfl, NQ2028, K2028⟩ := hQ2028
     have N2029 := Fr.app N2027 NQ2028
     refine Rch.st (fun _ k => st2028 _ k) ?_
     show Rch p e below T2028 (mkF m 277 #[.val (.int sp), .val (.int qc), .val (.int mc), .val (.int lb), .val (.int lq), .val (.int 2), .val (.int 1), .val (.ref a831), .val (.ref a854), .val (.ref ra_1797), .val (.ref ra_1917), .val (.ref a1939), .val (.ref ra_1982), .val (.int 5)] [(.int 1)]) _
     refine w_ifNo (pc' := 280) X2028 hx hby at_277 (XT.i0_eq_f (by decide)) rfl ?_
     refine w_aload (pc' := 282) X2028 hx hby at_280 rfl rfl rfl ?_
     refine w_iconst (pc' := 283) (v := 5) X2028 hx hby at_282 rfl rfl ?_
     refine w_iload (pc' := 285) X2028 hx hby at_283 rfl rfl ?_
     refine w_iload (pc' := 287) X2028 hx hby at_285 rfl rfl ?_
     refine w_iload (pc' := 289) X2028 hx hby at_287 rfl rfl ?_
     refine w_aload (pc' := 291) X2028 hx hby at_289 rfl rfl rfl ?_
     refine w_aload (pc' := 293) X2028 hx hby at_291 rfl rfl rfl ?_
     obtain ⟨_, _, ⟨T2030, L2030, k2030, n2030⟩, -, X2030, ⟨Lc2030, hQ2030, l2030, y2030, z2030⟩, st2030⟩ := Jvm.LawKit.callS X2028 hx (y := (⟨"com/example/alcance/alcance/IdentifiersQuotedPinLaw", "ok", "(Ljava/lang/String;IIII[C[C)Z"⟩ : MethodName)) hown (mvT hZ (wi hw 154 rfl)) (mvT hZ (wi hw 155 rfl)) (mvT hZ (wi hw 3 rfl)) (mvT hZ (wi hw 156 rfl)) (by decide) (backOf (W := 0) (rm_ok_far l Z a0 hw [] ra_1982 5 5 2 1 a831 a854 T1982.heap h0.size Z2014 (by decide)) hZ (wi hw 156 rfl) (wi hw 3 rfl) (by decide) (by decide)) (g := (mkF m 293 #[.val (.int sp), .val (.int qc), .val (.int mc), .val (.int lb), .val (.int lq), .val (.int 2), .val (.int 1), .val (.ref a831), .val (.ref a854), .val (.ref ra_1797), .val (.ref ra_1917), .val (.ref a1939), .val (.ref ra_1982), .val (.int 5)] [(.ref a854), (.ref a831), (.int 1), (.int 2), (.int 5), (.int 5), (.ref ra_1982)])) rfl (by rw [hml]; rfl) (argsL := [(.ref ra_1982), (.int 5), (.int 5), (.int 2), (.int 1), (.ref a831), (.ref a854)]) (rest := []) (lenOf pd__Ljava_lang_String_IIII_C_C_Z rfl) rfl (by show 2 * 0 + _ ≤ _; exact Nat.le_of_eq rfl) (hb hby at_293) (fun _ _ => ⟨rfl, K2028, (by decide : 12 + 0 ≤ _), (by decide : 61 + 0 ≤ _)⟩)
     dsimp only [Pt.U, Pt.locs, Pt.cells, Pt.slots] at X2030 l2030 y2030 z2030 st2030 hQ2030
     subst l2030 y2030 z2030
     obtain ⟨rfl, NQ2030, K2030⟩ := hQ2030
     have N2031 := Fr.app N2029 NQ2030
     refine Rch.st (fun _ k => st2030 _ k) ?_
     show Rch p e below T2030 (mkF m 296 #[.val (.int sp), .val (.int qc), .val (.int mc), .val (.int lb), .val (.int lq), .val (.int 2), .val (.int 1), .val (.ref a831), .val (.ref a854), .val (.ref ra_1797), .val (.ref ra_1917), .val (.ref a1939), .val (.ref ra_1982), .val (.int 5)] [(.int 1)]) _
     refine w_ifNo (pc' := 299) X2030 hx hby at_296 (XT.i0_eq_f (by decide)) rfl ?_
     refine w_aload (pc' := 301) X2030 hx hby at_299 rfl rfl rfl ?_
     refine w_bipush (pc' := 303) (v := 6) X2030 hx hby at_301 rfl rfl ?_
     refine w_iload (pc' := 305) X2030 hx hby at_303 rfl rfl ?_
     refine w_iload (pc' := 307) X2030 hx hby at_305 rfl rfl ?_
     refine w_iload (pc' := 309) X2030 hx hby at_307 rfl rfl ?_
     refine w_aload (pc' := 311) X2030 hx hby at_309 rfl rfl rfl ?_
     refine w_aload (pc' := 313) X2030 hx hby at_311 rfl rfl rfl ?_
     obtain ⟨_, _, ⟨T2032, L2032, k2032, n2032⟩, -, X2032, ⟨Lc2032, hQ2032, l2032, y2032, z2032⟩, st2032⟩ := Jvm.LawKit.callS X2030 hx (y := (⟨"com/example/alcance/alcance/IdentifiersQuotedPinLaw", "ok", "(Ljava/lang/String;IIII[C[C)Z"⟩ : MethodName)) hown (mvT hZ (wi hw 154 rfl)) (mvT hZ (wi hw 155 rfl)) (mvT hZ (wi hw 3 rfl)) (mvT hZ (wi hw 156 rfl)) (by decide) (backOf (W := 0) (rm_ok_far l Z a0 hw [] ra_1982 6 5 2 1 a831 a854 T1982.heap h0.size Z2014 (by decide)) hZ (wi hw 156 rfl) (wi hw 3 rfl) (by decide) (by decide)) (g := (mkF m 313 #[.val (.int sp), .val (.int qc), .val (.int mc), .val (.int lb), .val (.int lq), .val (.int 2), .val (.int 1), .val (.ref a831), .val (.ref a854), .val (.ref ra_1797), .val (.ref ra_1917), .val (.ref a1939), .val (.ref ra_1982), .val (.int 5)] [(.ref a854), (.ref a831), (.int 1), (.int 2), (.int 5), (.int 6), (.ref ra_1982)])) rfl (by rw [hml]; rfl) (argsL := [(.ref ra_1982), (.int 6), (.int 5), (.int 2), (.int 1), (.ref a831), (.ref a854)]) (rest := []) (lenOf pd__Ljava_lang_String_IIII_C_C_Z rfl) rfl (by show 2 * 0 + _ ≤ _; exact Nat.le_of_eq rfl) (hb hby at_313) (fun _ _ => ⟨rfl, K2030, (by decide : 12 + 0 ≤ _), (by decide : 61 + 0 ≤ _)⟩)
     dsimp only [Pt.U, Pt.locs, Pt.cells, Pt.slots] at X2032 l2032 y2032 z2032 st2032 hQ2032
     subst l2032 y2032 z2032
     obtain ⟨rfl, NQ2032, K2032⟩ := hQ2032
     have N2033 := Fr.app N2031 NQ2032
     refine Rch.st (fun _ k => st2032 _ k) ?_
     show Rch p e below T2032 (mkF m 316 #[.val (.int sp), .val (.int qc), .val (.int mc), .val (.int lb), .val (.int lq), .val (.int 2), .val (.int 1), .val (.ref a831), .val (.ref a854), .val (.ref ra_1797), .val (.ref ra_1917), .val (.ref a1939), .val (.ref ra_1982), .val (.int 5)] [(.int 1)]) _
     refine w_ifNo (pc' := 319) X2032 hx hby at_316 (XT.i0_eq_f (by decide)) rfl ?_
     refine w_iconst (pc' := 320) (v := 1) X2032 hx hby at_319 rfl rfl ?_
     refine w_goto (pc' := 324) X2032 hx hby at_320 (by decide) ?_
     exact Rch.retVW X2032 hx hS0 (by rw [K2032]; exact hk2015) Bd.returns rfl (Or.inl ⟨rfl, by simp, _, rfl⟩) (hb hby at_324) (by rw [K2032]; exact ⟨rfl, (own_Fr Z0 N2033), Kp2013, own_ib_mono (own_ib (s := s.setVm s.vm) hI X2032.warmed) (by decide)⟩) (by decide) (by decide)
    ·skip
     show Rch p e below T1797 (mkF m 129 #[.val (.int sp), .val (.int qc), .val (.int mc), .val (.int lb), .val (.int lq), .val (.int 2), .val (.int 2), .val (.ref a831), .val (.ref a854), .val (.ref ra_1797), .unset, .unset, .unset, .unset] [(.int 0), (.ref a854), (.ref a831), (.int 2)]) _
     obtain ⟨_, _, ⟨T2034, L2034, k2034, n2034⟩, -, X2034, ⟨Lc2034, hQ2034, l2034, y2034, z2034⟩, st2034⟩ := Jvm.LawKit.callS X1797 hx (y := (⟨"com/example/alcance/alcance/IdentifiersQuotedPinLaw", "make", "(I[C[CZ)Ljava/lang/String;"⟩ : MethodName)) hown (mvT hZ (wi hw 1 rfl)) (mvT hZ (wi hw 2 rfl)) (mvT hZ (wi hw 3 rfl)) (mvT hZ (wi hw 4 rfl)) (by decide) (backOf (W := 0) (rm_mk_0_2 l Z a0 hw [] G1 a831 a854 kc854 na nb nc T1797.heap h0.size Z1809 (O2) (P5) f1806 (ch_na) (ch_nb) Old1807) hZ (wi hw 4 rfl) (wi hw 3 rfl) (by decide) (by decide)) (g := (mkF m 129 #[.val (.int sp), .val (.int qc), .val (.int mc), .val (.int lb), .val (.int lq), .val (.int 2), .val (.int 2), .val (.ref a831), .val (.ref a854), .val (.ref ra_1797), .unset, .unset, .unset, .unset] [(.int 0), (.ref a854), (.ref a831), (.int 2)])) rfl (by rw [hml]; rfl) (argsL := [(.int 2), (.ref a831), (.ref a854), (.int 0)]) (rest := []) (lenOf pd__I_C_CZ_Ljava_lang_String_ rfl) rfl (by show 2 * 0 + _ ≤ _; exact Nat.le_of_eq rfl) (hb hby at_129) (fun _ _ => ⟨rfl, (rfl : T1797.heap = T1797.heap), (by decide : 5 + 3 ≤ _), (by decide : 13 + 8 ≤ _)⟩)
     dsimp only [Pt.U, Pt.locs, Pt.cells, Pt.slots] at X2034 l2034 y2034 z2034 st2034 hQ2034
     subst l2034 y2034 z2034
     obtain ⟨ra_2034, t_2034, kt_2034, rfl, NQ2034, K2034, pq2034_0, pq2034_1, fq2034_0, fq2034_1, fq2034_2, fq2034_3⟩ := hQ2034
     have N2035 := Fr.app N1798 NQ2034
     have f2046 := f1805.keep K2034 nin0
     have f2047 := f1806.keep K2034 nin0
     have f2048 := fq1797_0.keep K2034
     have f2049 := fq1797_1.keep K2034 nin0
     have f2050 := fq1797_2.keep K2034 nin0
     have f2051 := fq1797_3.keep K2034 nin0
     have Old2052 := Old1807.keep K2034 all0
     have Kp2053 : Keep h0 T2034.heap [] := Kp1808.trans K2034 all0
     have Z2054 := Nat.le_trans Z1809 K2034.1
     have hk2055 := Nat.le_trans hk1810 K2034.1
     refine Rch.st (fun _ k => st2034 _ k) ?_
     show Rch p e below T2034 (mkF m 132 #[.val (.int sp), .val (.int qc), .val (.int mc), .val (.int lb), .val (.int lq), .val (.int 2), .val (.int 2), .val (.ref a831), .val (.ref a854), .val (.ref ra_1797), .unset, .unset, .unset, .unset] [(.ref ra_2034)]) _
     refine w_astore (pc' := 134) (l' := #[.val (.int sp), .val (.int qc), .val (.int mc), .val (.int lb), .val (.int lq), .val (.int 2), .val (.int 2), .val (.ref a831), .val (.ref a854), .val (.ref ra_1797), .val (.ref ra_2034), .unset, .unset, .unset]) X2034 hx hby at_132 rfl rfl rfl ?_
     obtain ⟨T2056, h2056, X2056, e2056, E2056, A2056, D2056, -, st2056⟩ := newO X2034 hx hZ hown (wi hw 13 rfl) (wi hw 14 rfl) (wi hw 15 rfl) (rfl : T2034.heap = T2034.heap) (g := (mkF m 134 #[.val (.int sp), .val (.int qc), .val (.int mc), .val (.int lb), .val (.int lq), .val (.int 2), .val (.int 2), .val (.ref a831), .val (.ref a854), .val (.ref ra_1797), .val (.ref ra_2034), .unset, .unset, .unset] [])) rfl (hb hby at_134) (by decide) (by decide)
     obtain ⟨a2056, g2056⟩ : ∃ z, z = T2034.heap.size := ⟨_, rfl⟩
     rw [← g2056] at A2056 D2056 st2056
     have ne2057 : a831 ≠ a2056 := by rw [g2056]; exact Nat.ne_of_lt f2046.lt
     have ne2058 : a854 ≠ a2056 := by rw [g2056]; exact Nat.ne_of_lt f2047.lt
     have ne2059 : ra_1797 ≠ a2056 := by rw [g2056]; exact Nat.ne_of_lt f2048.lt
     have ne2060 : ra_2034 ≠ a2056 := by rw [g2056]; exact Nat.ne_of_lt fq2034_0.lt
     have ne2061 : t_1797 ≠ a2056 := by rw [g2056]; exact Nat.ne_of_lt f2051.lt
     have ne2062 : t_2034 ≠ a2056 := by rw [g2056]; exact Nat.ne_of_lt fq2034_3.lt
     have ge2063 : h0.size ≤ a2056 := Nat.le_trans Z2054 (Nat.le_of_eq g2056.symm)
     have hk2065 := Nat.le_trans hk2055 E2056.1
     have f2066 := f2046.ext E2056
     have f2067 := f2047.ext E2056
     have f2068 := f2048.ext E2056
     have f2069 := f2049.ext E2056
     have f2070 := f2050.ext E2056
     have f2071 := f2051.ext E2056
     have f2072 := fq2034_0.ext E2056
     have f2073 := fq2034_1.ext E2056
     have f2074 := fq2034_2.ext E2056
     have f2075 := fq2034_3.ext E2056
     have Old2076 := Old2052.ext E2056
     have Z2077 := Nat.le_trans Z2054 E2056.1
     have Kp2078 : Keep h0 h2056 [] := Kp2053.ext E2056
     have f2079 : Fld Z h2056 a2056 "com/example/alcance/alcance/Identifiers" "lowersBare" "Z" (.int (0 : Int32)) := D2056 (Or.inr (wi hw 28 rfl)) (ty := .boolean) (by decide)
     have f2080 : Fld Z h2056 a2056 "com/example/alcance/alcance/Identifiers" "lowersQuoted" "Z" (.int (0 : Int32)) := D2056 (Or.inr (wi hw 30 rfl)) (ty := .boolean) (by decide)
     have f2081 : Fld Z h2056 a2056 "com/example/alcance/alcance/Identifiers" "quote" "Ljava/lang/String;" .null := D2056 (Or.inr (wi hw 32 rfl)) (ty := (.object "java/lang/String")) (by decide)
     refine Rch.st (fun _ k => st2056 _ k) ?_
     show Rch p e below T2056 (mkF m 137 #[.val (.int sp), .val (.int qc), .val (.int mc), .val (.int lb), .val (.int lq), .val (.int 2), .val (.int 2), .val (.ref a831), .val (.ref a854), .val (.ref ra_1797), .val (.ref ra_2034), .unset, .unset, .unset] [(.ref a2056)]) _
     refine w_dup (pc' := 138) X2056 hx hby at_137 rfl rfl ?_
     refine w_iloadN (pc' := 139) X2056 hx hby at_138 rfl rfl ?_
     refine w_iload (pc' := 141) X2056 hx hby at_139 rfl rfl ?_
     refine w_aload (pc' := 143) X2056 hx hby at_141 rfl rfl rfl ?_
     obtain ⟨_, _, ⟨T2082, L2082, k2082, n2082⟩, -, X2082, ⟨Lc2082, hQ2082, l2082, y2082, z2082⟩, st2082⟩ := X2056.specialBack hx (y := (⟨"com/example/alcance/alcance/Identifiers", "<init>", "(ZZLjava/lang/String;)V"⟩ : MethodName)) rfl hown (mvT hZ (wi hw 16 rfl)) (mvT hZ (wi hw 17 rfl)) (mvT hZ (wi hw 18 rfl)) (by decide) (backOf (W := 1) (rm_id l Z a0 hw [] a2056 lb lq ra_1797 h2056 h0.size Z2077 A2056 f2079 f2080 f2081 (ge2063) (hlb) (hlq)) hZ (wi hw 18 rfl) (wi hw 15 rfl) (by decide) (by decide)) (g := (mkF m 143 #[.val (.int sp), .val (.int qc), .val (.int mc), .val (.int lb), .val (.int lq), .val (.int 2), .val (.int 2), .val (.ref a831), .val (.ref a854), .val (.ref ra_1797), .val (.ref ra_2034), .unset, .unset, .unset] [(.ref ra_1797), (.int lq), (.int lb), (.ref a2056), (.ref a2056)])) rfl (by rw [hml]; rfl) (Steps.refl _) (a := a2056) (argsL := [(.int lb), (.int lq), (.ref ra_1797)]) (rest := [(.ref a2056)]) (lenOf pd__ZZLjava_lang_String__V rfl) rfl (by show 2 * 0 + _ ≤ _; exact Nat.le_of_eq rfl) (hb hby at_143) (fun _ _ => ⟨rfl, e2056, (by decide : 9 + 0 ≤ _), (by decide : 24 + 0 ≤ _)⟩)
     dsimp only [Pt.U, Pt.locs, Pt.cells, Pt.slots] at X2082 l2082 y2082 z2082 st2082 hQ2082
     subst l2082 y2082 z2082
     obtain ⟨rfl, NQ2082, K2082, fq2082_0⟩ := hQ2082
     have N2083 := Fr.app N2035 NQ2082
     have f2084 := f2066.keep K2082 (ninS ne2057 nin0)
     have f2085 := f2067.keep K2082 (ninS ne2058 nin0)
     have f2086 := f2068.keep K2082
     have f2087 := f2069.keep K2082 (ninS ne2059 nin0)
     have f2088 := f2070.keep K2082 (ninS ne2059 nin0)
     have f2089 := f2071.keep K2082 (ninS ne2061 nin0)
     have f2090 := f2072.keep K2082
     have f2091 := f2073.keep K2082 (ninS ne2060 nin0)
     have f2092 := f2074.keep K2082 (ninS ne2060 nin0)
     have f2093 := f2075.keep K2082 (ninS ne2062 nin0)
     have f2094 := A2056.keep K2082
     have Old2095 := Old2076.keep K2082 (allS ge2063 all0)
     have Kp2096 : Keep h0 T2082.heap [] := Kp2078.trans K2082 (allS (Or.inr (Nat.le_trans Kp2053.1 (Nat.le_of_eq g2056.symm))) all0)
     have Z2097 := Nat.le_trans Z2077 K2082.1
     have hk2098 := Nat.le_trans hk2065 K2082.1
     refine Rch.st (fun _ k => st2082.trans k) ?_
     show Rch p e below T2082 (mkF m 146 #[.val (.int sp), .val (.int qc), .val (.int mc), .val (.int lb), .val (.int lq), .val (.int 2), .val (.int 2), .val (.ref a831), .val (.ref a854), .val (.ref ra_1797), .val (.ref ra_2034), .unset, .unset, .unset] [(.ref a2056)]) _
     refine w_astore (pc' := 148) (l' := #[.val (.int sp), .val (.int qc), .val (.int mc), .val (.int lb), .val (.int lq), .val (.int 2), .val (.int 2), .val (.ref a831), .val (.ref a854), .val (.ref ra_1797), .val (.ref ra_2034), .val (.ref a2056), .unset, .unset]) X2082 hx hby at_146 rfl rfl rfl ?_
     refine w_aload (pc' := 150) X2082 hx hby at_148 rfl rfl rfl ?_
     refine w_aload (pc' := 152) X2082 hx hby at_150 rfl rfl rfl ?_
     obtain ⟨cq2099, kq2099, q2099a, q2099b, q2099c⟩ := isOf hZ (rfl : T2082.heap = T2082.heap) f2094
     obtain ⟨_, _, ⟨T2099, L2099, k2099, n2099⟩, -, X2099, ⟨Lc2099, hQ2099, l2099, y2099, z2099⟩, st2099⟩ := X2082.virtualBack hx (y := (⟨"com/example/alcance/alcance/Identifiers", "quoted", "(Ljava/lang/String;)Ljava/lang/String;"⟩ : MethodName)) (z := (⟨"com/example/alcance/alcance/Identifiers", "quoted", "(Ljava/lang/String;)Ljava/lang/String;"⟩ : MethodName)) hown (mvT hZ (wi hw 33 rfl)) (mvT hZ (wi hw 34 rfl)) (notFace_of_selects (args := #[]) (mvT hZ (wi hw 36 rfl))) (mvT hZ (wi hw 36 rfl)) (mvT hZ (wi hw 35 rfl)) (by decide) (backOf (W := 0) (rm_qu l Z a0 hw [] G1 a2056 ra_1797 t_1797 kt_1797 2 ([(.int (own_by qa)), (.int (own_by qb))]) (.int 0) ra_2034 t_2034 kt_2034 2 ([(.int (own_by na)), (.int (own_by nb))]) (.int 0) T2082.heap h0.size Z2097 (O2) (P5) fq2082_0 f2086 f2087 f2088 f2089 f2090 f2091 f2092 f2093 (by decide) (by decide) (by decide) (by decide) (by decide) (by decide) (by decide) (by decide) (by decide) (by decide) (by decide) (by decide) (by decide) (by decide) Old2095) hZ (wi hw 37 rfl) (wi hw 15 rfl) (by decide) (by decide)) q2099a q2099c (g := (mkF m 152 #[.val (.int sp), .val (.int qc), .val (.int mc), .val (.int lb), .val (.int lq), .val (.int 2), .val (.int 2), .val (.ref a831), .val (.ref a854), .val (.ref ra_1797), .val (.ref ra_2034), .val (.ref a2056), .unset, .unset] [(.ref ra_2034), (.ref a2056)])) rfl (by rw [hml]; rfl) (Steps.refl _) (argsL := [(.ref ra_2034)]) (rest := []) (lenOf pd__Ljava_lang_String__Ljava_lang_String_ rfl) rfl (by show 2 * 0 + _ ≤ _; exact Nat.le_of_eq rfl) (hb hby at_152) (fun _ _ => ⟨rfl, (rfl : T2082.heap = T2082.heap), (by decide : 9 + 4 ≤ _), (by decide : 24 + 40 ≤ _)⟩)
     dsimp only [Pt.U, Pt.locs, Pt.cells, Pt.slots] at X2099 l2099 y2099 z2099 st2099 hQ2099
     subst l2099 y2099 z2099
     obtain ⟨ra_2099, t_2099, kt_2099, rfl, NQ2099, K2099, pq2099_0, pq2099_1, fq2099_0, fq2099_1, fq2099_2, fq2099_3⟩ := hQ2099
     have N2100 := Fr.app N2083 NQ2099
     have f2117 := f2084.keep K2099 nin0
     have f2118 := f2085.keep K2099 nin0
     have Old2129 := Old2095.keep K2099 all0
     have Kp2130 : Keep h0 T2099.heap [] := Kp2096.trans K2099 all0
     have Z2131 := Nat.le_trans Z2097 K2099.1
     have hk2132 := Nat.le_trans hk2098 K2099.1
     refine Rch.st (fun _ k => st2099.trans k) ?_
     show Rch p e below T2099 (mkF m 155 #[.val (.int sp), .val (.int qc), .val (.int mc), .val (.int lb), .val (.int lq), .val (.int 2), .val (.int 2), .val (.ref a831), .val (.ref a854), .val (.ref ra_1797), .val (.ref ra_2034), .val (.ref a2056), .unset, .unset] [(.ref ra_2099)]) _
     have f2133 : Arv Z T2099.heap t_2099 kt_2099 .byte (6 : Int32) [(.int (own_by qa)), (.int (own_by qb)), (.int (own_by na)), (.int (own_by nb)), (.int (own_by qa)), (.int (own_by qb))] (.int (0 : Int32)) := by have z := fq2099_3; rw [show ((((0 : Int32) + (2 : Int32)) + (2 : Int32)) + (2 : Int32)) = (6 : Int32) from by decide, own_cat, own_t2] at z; exact z
     refine w_astore (pc' := 157) (l' := #[.val (.int sp), .val (.int qc), .val (.int mc), .val (.int lb), .val (.int lq), .val (.int 2), .val (.int 2), .val (.ref a831), .val (.ref a854), .val (.ref ra_1797), .val (.ref ra_2034), .val (.ref a2056), .val (.ref ra_2099), .unset]) X2099 hx hby at_155 rfl rfl rfl ?_
     refine w_aload (pc' := 159) X2099 hx hby at_157 rfl rfl rfl ?_
     refine w_nonnullYes (pc' := 164) X2099 hx hby at_159 rfl (fun q => nomatch q) (by decide) ?_
     refine w_iconst (pc' := 165) (v := 2) X2099 hx hby at_164 rfl rfl ?_
     refine w_iload (pc' := 167) X2099 hx hby at_165 rfl rfl ?_
     refine w_imul (pc' := 168) X2099 hx hby at_167 rfl ?_
     refine w_iload (pc' := 170) X2099 hx hby at_168 rfl rfl ?_
     refine w_iadd (pc' := 171) X2099 hx hby at_170 rfl ?_
     have r2134 : (((2 : Int32) * (2 : Int32)) + (2 : Int32)) = (6 : Int32) := by decide
     rw [r2134]
     show Rch p e below T2099 (mkF m 171 #[.val (.int sp), .val (.int qc), .val (.int mc), .val (.int lb), .val (.int lq), .val (.int 2), .val (.int 2), .val (.ref a831), .val (.ref a854), .val (.ref ra_1797), .val (.ref ra_2034), .val (.ref a2056), .val (.ref ra_2099), .unset] [(.int 6)]) _
     refine w_istore (pc' := 173) (l' := #[.val (.int sp), .val (.int qc), .val (.int mc), .val (.int lb), .val (.int lq), .val (.int 2), .val (.int 2), .val (.ref a831), .val (.ref a854), .val (.ref ra_1797), .val (.ref ra_2034), .val (.ref a2056), .val (.ref ra_2099), .val (.int 6)]) X2099 hx hby at_171 rfl rfl ?_
     refine w_aload (pc' := 175) X2099 hx hby at_173 rfl rfl rfl ?_
     obtain ⟨cq2135, kq2135, q2135a, q2135b, q2135c⟩ := isOf hZ (rfl : T2099.heap = T2099.heap) fq2099_0
     obtain ⟨_, _, ⟨T2135, L2135, k2135, n2135⟩, -, X2135, ⟨Lc2135, hQ2135, l2135, y2135, z2135⟩, st2135⟩ := X2099.virtualBack hx (y := (⟨"java/lang/String", "length", "()I"⟩ : MethodName)) (z := (⟨"java/lang/String", "length", "()I"⟩ : MethodName)) hown (mvT hZ (wi hw 153 rfl)) (mvT hZ (wi hw 67 rfl)) (notFace_of_selects (args := #[]) (mvT hZ (wi hw 69 rfl))) (mvT hZ (wi hw 69 rfl)) (mvT hZ (wi hw 68 rfl)) (by decide) (backOf (W := 0) (rm_length l Z a0 hw [] G1 ra_2099 0 t_2099 kt_2099 6 ([(.int (own_by qa)), (.int (own_by qb)), (.int (own_by na)), (.int (own_by nb)), (.int (own_by qa)), (.int (own_by qb))]) (.int 0) T2099.heap h0.size Z2131 (O2) (P5) fq2099_1 (Or.inl rfl) fq2099_2 f2133 fq2099_0 Old2129) hZ (wi hw 70 rfl) (wi hw 6 rfl) (by decide) (by decide)) q2135a q2135c (g := (mkF m 175 #[.val (.int sp), .val (.int qc), .val (.int mc), .val (.int lb), .val (.int lq), .val (.int 2), .val (.int 2), .val (.ref a831), .val (.ref a854), .val (.ref ra_1797), .val (.ref ra_2034), .val (.ref a2056), .val (.ref ra_2099), .val (.int 6)] [(.ref ra_2099)])) rfl (by rw [hml]; rfl) (Steps.refl _) (argsL := []) (rest := []) (lenOf pd___I rfl) rfl (by show 2 * 0 + _ ≤ _; exact Nat.le_of_eq rfl) (hb hby at_175) (fun _ _ => ⟨rfl, (rfl : T2099.heap = T2099.heap), (by decide : 13 + 0 ≤ _), (by decide : 64 + 0 ≤ _)⟩)
     dsimp only [Pt.U, Pt.locs, Pt.cells, Pt.slots] at X2135 l2135 y2135 z2135 st2135 hQ2135
     subst l2135 y2135 z2135
     obtain ⟨rfl, NQ2135, K2135⟩ := hQ2135
     have N2136 := Fr.app N2100 NQ2135
     refine Rch.st (fun _ k => st2135.trans k) ?_
     show Rch p e below T2135 (mkF m 178 #[.val (.int sp), .val (.int qc), .val (.int mc), .val (.int lb), .val (.int lq), .val (.int 2), .val (.int 2), .val (.ref a831), .val (.ref a854), .val (.ref ra_1797), .val (.ref ra_2034), .val (.ref a2056), .val (.ref ra_2099), .val (.int 6)] [(.int ((6 : Int32) >>> ((0 : Int32) &&& 31)))]) _
     refine w_iload (pc' := 180) X2135 hx hby at_178 rfl rfl ?_
     refine w_icmpYes (pc' := 185) X2135 hx hby at_180 (XT.ii_eq_t (by decide)) (by decide) ?_
     refine w_aload (pc' := 187) X2135 hx hby at_185 rfl rfl rfl ?_
     refine w_iconst (pc' := 188) (v := 0) X2135 hx hby at_187 rfl rfl ?_
     refine w_iload (pc' := 190) X2135 hx hby at_188 rfl rfl ?_
     refine w_iload (pc' := 192) X2135 hx hby at_190 rfl rfl ?_
     refine w_iload (pc' := 194) X2135 hx hby at_192 rfl rfl ?_
     refine w_aload (pc' := 196) X2135 hx hby at_194 rfl rfl rfl ?_
     refine w_aload (pc' := 198) X2135 hx hby at_196 rfl rfl rfl ?_
     obtain ⟨_, _, ⟨T2137, L2137, k2137, n2137⟩, -, X2137, ⟨Lc2137, hQ2137, l2137, y2137, z2137⟩, st2137⟩ := Jvm.LawKit.callS X2135 hx (y := (⟨"com/example/alcance/alcance/IdentifiersQuotedPinLaw", "ok", "(Ljava/lang/String;IIII[C[C)Z"⟩ : MethodName)) hown (mvT hZ (wi hw 154 rfl)) (mvT hZ (wi hw 155 rfl)) (mvT hZ (wi hw 3 rfl)) (mvT hZ (wi hw 156 rfl)) (by decide) (backOf (W := 0) (rm_ok_A l Z a0 hw [] G1 G3 ra_2099 t_2099 kt_2099 6 ([(.int (own_by qa)), (.int (own_by qb)), (.int (own_by na)), (.int (own_by nb)), (.int (own_by qa)), (.int (own_by qb))]) (.int 0) 0 2 2 a831 kc831 ([(.int qa), (.int qb)]) (.int 0) a854 kc854 ([(.int na), (.int nb), (.int nc)]) (.int 0) qa 6 T2099.heap h0.size Z2131 (O2) (P5) (O4) (rG3) fq2099_0 fq2099_1 fq2099_2 f2133 f2117 f2118 (by decide) (⟨by decide, by decide⟩) (by rfl) (ch_qa) (by decide) (by decide) (by decide) (by rfl) Old2129) hZ (wi hw 156 rfl) (wi hw 3 rfl) (by decide) (by decide)) (g := (mkF m 198 #[.val (.int sp), .val (.int qc), .val (.int mc), .val (.int lb), .val (.int lq), .val (.int 2), .val (.int 2), .val (.ref a831), .val (.ref a854), .val (.ref ra_1797), .val (.ref ra_2034), .val (.ref a2056), .val (.ref ra_2099), .val (.int 6)] [(.ref a854), (.ref a831), (.int 2), (.int 2), (.int 6), (.int 0), (.ref ra_2099)])) rfl (by rw [hml]; rfl) (argsL := [(.ref ra_2099), (.int 0), (.int 6), (.int 2), (.int 2), (.ref a831), (.ref a854)]) (rest := []) (lenOf pd__Ljava_lang_String_IIII_C_C_Z rfl) rfl (by show 2 * 0 + _ ≤ _; exact Nat.le_of_eq rfl) (hb hby at_198) (fun _ _ => ⟨rfl, K2135, (by decide : 13 + 0 ≤ _), (by decide : 64 + 0 ≤ _)⟩)
     dsimp only [Pt.U, Pt.locs, Pt.cells, Pt.slots] at X2137 l2137 y2137 z2137 st2137 hQ2137
     subst l2137 y2137 z2137
     obtain ⟨rfl, NQ2137, K2137⟩ := hQ2137
     have N2138 := Fr.app N2136 NQ2137
     refine Rch.st (fun _ k => st2137 _ k) ?_
     show Rch p e below T2137 (mkF m 201 #[.val (.int sp), .val (.int qc), .val (.int mc), .val (.int lb), .val (.int lq), .val (.int 2), .val (.int 2), .val (.ref a831), .val (.ref a854), .val (.ref ra_1797), .val (.ref ra_2034), .val (.ref a2056), .val (.ref ra_2099), .val (.int 6)] [(.int 1)]) _
     refine w_ifNo (pc' := 204) X2137 hx hby at_201 (XT.i0_eq_f (by decide)) rfl ?_
     refine w_aload (pc' := 206) X2137 hx hby at_204 rfl rfl rfl ?_
     refine w_iconst (pc' := 207) (v := 1) X2137 hx hby at_206 rfl rfl ?_
     refine w_iload (pc' := 209) X2137 hx hby at_207 rfl rfl ?_
     refine w_iload (pc' := 211) X2137 hx hby at_209 rfl rfl ?_
     refine w_iload (pc' := 213) X2137 hx hby at_211 rfl rfl ?_
     refine w_aload (pc' := 215) X2137 hx hby at_213 rfl rfl rfl ?_
     refine w_aload (pc' := 217) X2137 hx hby at_215 rfl rfl rfl ?_
     obtain ⟨_, _, ⟨T2139, L2139, k2139, n2139⟩, -, X2139, ⟨Lc2139, hQ2139, l2139, y2139, z2139⟩, st2139⟩ := Jvm.LawKit.callS X2137 hx (y := (⟨"com/example/alcance/alcance/IdentifiersQuotedPinLaw", "ok", "(Ljava/lang/String;IIII[C[C)Z"⟩ : MethodName)) hown (mvT hZ (wi hw 154 rfl)) (mvT hZ (wi hw 155 rfl)) (mvT hZ (wi hw 3 rfl)) (mvT hZ (wi hw 156 rfl)) (by decide) (backOf (W := 0) (rm_ok_A l Z a0 hw [] G1 G3 ra_2099 t_2099 kt_2099 6 ([(.int (own_by qa)), (.int (own_by qb)), (.int (own_by na)), (.int (own_by nb)), (.int (own_by qa)), (.int (own_by qb))]) (.int 0) 1 2 2 a831 kc831 ([(.int qa), (.int qb)]) (.int 0) a854 kc854 ([(.int na), (.int nb), (.int nc)]) (.int 0) qb 6 T2099.heap h0.size Z2131 (O2) (P5) (O4) (rG3) fq2099_0 fq2099_1 fq2099_2 f2133 f2117 f2118 (by decide) (⟨by decide, by decide⟩) (by rfl) (ch_qb) (by decide) (by decide) (by decide) (by rfl) Old2129) hZ (wi hw 156 rfl) (wi hw 3 rfl) (by decide) (by decide)) (g := (mkF m 217 #[.val (.int sp), .val (.int qc), .val (.int mc), .val (.int lb), .val (.int lq), .val (.int 2), .val (.int 2), .val (.ref a831), .val (.ref a854), .val (.ref ra_1797), .val (.ref ra_2034), .val (.ref a2056), .val (.ref ra_2099), .val (.int 6)] [(.ref a854), (.ref a831), (.int 2), (.int 2), (.int 6), (.int 1), (.ref ra_2099)])) rfl (by rw [hml]; rfl) (argsL := [(.ref ra_2099), (.int 1), (.int 6), (.int 2), (.int 2), (.ref a831), (.ref a854)]) (rest := []) (lenOf pd__Ljava_lang_String_IIII_C_C_Z rfl) rfl (by show 2 * 0 + _ ≤ _; exact Nat.le_of_eq rfl) (hb hby at_217) (fun _ _ => ⟨rfl, K2137, (by decide : 13 + 0 ≤ _), (by decide : 64 + 0 ≤ _)⟩)
     dsimp only [Pt.U, Pt.locs, Pt.cells, Pt.slots] at X2139 l2139 y2139 z2139 st2139 hQ2139
     subst l2139 y2139 z2139
     obtain ⟨rfl, NQ2139, K2139⟩ := hQ2139
     have N2140 := Fr.app N2138 NQ2139
     refine Rch.st (fun _ k => st2139 _ k) ?_
     show Rch p e below T2139 (mkF m 220 #[.val (.int sp), .val (.int qc), .val (.int mc), .val (.int lb), .val (.int lq), .val (.int 2), .val (.int 2), .val (.ref a831), .val (.ref a854), .val (.ref ra_1797), .val (.ref ra_2034), .val (.ref a2056), .val (.ref ra_2099), .val (.int 6)] [(.int 1)]) _
     refine w_ifNo (pc' := 223) X2139 hx hby at_220 (XT.i0_eq_f (by decide)) rfl ?_
     refine w_aload (pc' := 225) X2139 hx hby at_223 rfl rfl rfl ?_
     refine w_iconst (pc' := 226) (v := 2) X2139 hx hby at_225 rfl rfl ?_
     refine w_iload (pc' := 228) X2139 hx hby at_226 rfl rfl ?_
     refine w_iload (pc' := 230) X2139 hx hby at_228 rfl rfl ?_
     refine w_iload (pc' := 232) X2139 hx hby at_230 rfl rfl ?_
     refine w_aload (pc' := 234) X2139 hx hby at_232 rfl rfl rfl ?_
     refine w_aload (pc' := 236) X2139 hx hby at_234 rfl rfl rfl ?_
     obtain ⟨_, _, ⟨T2141, L2141, k2141, n2141⟩, -, X2141, ⟨Lc2141, hQ2141, l2141, y2141, z2141⟩, st2141⟩ := Jvm.LawKit.callS X2139 hx (y := (⟨"com/example/alcance/alcance/IdentifiersQuotedPinLaw", "ok", "(Ljava/lang/String;IIII[C[C)Z"⟩ : MethodName)) hown (mvT hZ (wi hw 154 rfl)) (mvT hZ (wi hw 155 rfl)) (mvT hZ (wi hw 3 rfl)) (mvT hZ (wi hw 156 rfl)) (by decide) (backOf (W := 0) (rm_ok_B l Z a0 hw [] G1 G3 ra_2099 t_2099 kt_2099 6 ([(.int (own_by qa)), (.int (own_by qb)), (.int (own_by na)), (.int (own_by nb)), (.int (own_by qa)), (.int (own_by qb))]) (.int 0) 2 2 2 a831 kc831 ([(.int qa), (.int qb)]) (.int 0) a854 kc854 ([(.int na), (.int nb), (.int nc)]) (.int 0) na 6 T2099.heap h0.size Z2131 (O2) (P5) (O4) (rG3) fq2099_0 fq2099_1 fq2099_2 f2133 f2117 f2118 (by decide) (by decide) (⟨by decide, by decide⟩) (by rfl) (ch_na) (by decide) (by decide) (by decide) (by rfl) Old2129) hZ (wi hw 156 rfl) (wi hw 3 rfl) (by decide) (by decide)) (g := (mkF m 236 #[.val (.int sp), .val (.int qc), .val (.int mc), .val (.int lb), .val (.int lq), .val (.int 2), .val (.int 2), .val (.ref a831), .val (.ref a854), .val (.ref ra_1797), .val (.ref ra_2034), .val (.ref a2056), .val (.ref ra_2099), .val (.int 6)] [(.ref a854), (.ref a831), (.int 2), (.int 2), (.int 6), (.int 2), (.ref ra_2099)])) rfl (by rw [hml]; rfl) (argsL := [(.ref ra_2099), (.int 2), (.int 6), (.int 2), (.int 2), (.ref a831), (.ref a854)]) (rest := []) (lenOf pd__Ljava_lang_String_IIII_C_C_Z rfl) rfl (by show 2 * 0 + _ ≤ _; exact Nat.le_of_eq rfl) (hb hby at_236) (fun _ _ => ⟨rfl, K2139, (by decide : 13 + 0 ≤ _), (by decide : 64 + 0 ≤ _)⟩)
     dsimp only [Pt.U, Pt.locs, Pt.cells, Pt.slots] at X2141 l2141 y2141 z2141 st2141 hQ2141
     subst l2141 y2141 z2141
     obtain ⟨rfl, NQ2141, K2141⟩ := hQ2141
     have N2142 := Fr.app N2140 NQ2141
     refine Rch.st (fun _ k => st2141 _ k) ?_
     show Rch p e below T2141 (mkF m 239 #[.val (.int sp), .val (.int qc), .val (.int mc), .val (.int lb), .val (.int lq), .val (.int 2), .val (.int 2), .val (.ref a831), .val (.ref a854), .val (.ref ra_1797), .val (.ref ra_2034), .val (.ref a2056), .val (.ref ra_2099), .val (.int 6)] [(.int 1)]) _
     refine w_ifNo (pc' := 242) X2141 hx hby at_239 (XT.i0_eq_f (by decide)) rfl ?_
     refine w_aload (pc' := 244) X2141 hx hby at_242 rfl rfl rfl ?_
     refine w_iconst (pc' := 245) (v := 3) X2141 hx hby at_244 rfl rfl ?_
     refine w_iload (pc' := 247) X2141 hx hby at_245 rfl rfl ?_
     refine w_iload (pc' := 249) X2141 hx hby at_247 rfl rfl ?_
     refine w_iload (pc' := 251) X2141 hx hby at_249 rfl rfl ?_
     refine w_aload (pc' := 253) X2141 hx hby at_251 rfl rfl rfl ?_
     refine w_aload (pc' := 255) X2141 hx hby at_253 rfl rfl rfl ?_
     obtain ⟨_, _, ⟨T2143, L2143, k2143, n2143⟩, -, X2143, ⟨Lc2143, hQ2143, l2143, y2143, z2143⟩, st2143⟩ := Jvm.LawKit.callS X2141 hx (y := (⟨"com/example/alcance/alcance/IdentifiersQuotedPinLaw", "ok", "(Ljava/lang/String;IIII[C[C)Z"⟩ : MethodName)) hown (mvT hZ (wi hw 154 rfl)) (mvT hZ (wi hw 155 rfl)) (mvT hZ (wi hw 3 rfl)) (mvT hZ (wi hw 156 rfl)) (by decide) (backOf (W := 0) (rm_ok_B l Z a0 hw [] G1 G3 ra_2099 t_2099 kt_2099 6 ([(.int (own_by qa)), (.int (own_by qb)), (.int (own_by na)), (.int (own_by nb)), (.int (own_by qa)), (.int (own_by qb))]) (.int 0) 3 2 2 a831 kc831 ([(.int qa), (.int qb)]) (.int 0) a854 kc854 ([(.int na), (.int nb), (.int nc)]) (.int 0) nb 6 T2099.heap h0.size Z2131 (O2) (P5) (O4) (rG3) fq2099_0 fq2099_1 fq2099_2 f2133 f2117 f2118 (by decide) (by decide) (⟨by decide, by decide⟩) (by rfl) (ch_nb) (by decide) (by decide) (by decide) (by rfl) Old2129) hZ (wi hw 156 rfl) (wi hw 3 rfl) (by decide) (by decide)) (g := (mkF m 255 #[.val (.int sp), .val (.int qc), .val (.int mc), .val (.int lb), .val (.int lq), .val (.int 2), .val (.int 2), .val (.ref a831), .val (.ref a854), .val (.ref ra_1797), .val (.ref ra_2034), .val (.ref a2056), .val (.ref ra_2099), .val (.int 6)] [(.ref a854), (.ref a831), (.int 2), (.int 2), (.int 6), (.int 3), (.ref ra_2099)])) rfl (by rw [hml]; rfl) (argsL := [(.ref ra_2099), (.int 3), (.int 6), (.int 2), (.int 2), (.ref a831), (.ref a854)]) (rest := []) (lenOf pd__Ljava_lang_String_IIII_C_C_Z rfl) rfl (by show 2 * 0 + _ ≤ _; exact Nat.le_of_eq rfl) (hb hby at_255) (fun _ _ => ⟨rfl, K2141, (by decide : 13 + 0 ≤ _), (by decide : 64 + 0 ≤ _)⟩)
     dsimp only [Pt.U, Pt.locs, Pt.cells, Pt.slots] at X2143 l2143 y2143 z2143 st2143 hQ2143
     subst l2143 y2143 z2143
     obtain ⟨rfl, NQ2143, K2143⟩ := hQ2143
     have N2144 := Fr.app N2142 NQ2143
     refine Rch.st (fun _ k => st2143 _ k) ?_
     show Rch p e below T2143 (mkF m 258 #[.val (.int sp), .val (.int qc), .val (.int mc), .val (.int lb), .val (.int lq), .val (.int 2), .val (.int 2), .val (.ref a831), .val (.ref a854), .val (.ref ra_1797), .val (.ref ra_2034), .val (.ref a2056), .val (.ref ra_2099), .val (.int 6)] [(.int 1)]) _
     refine w_ifNo (pc' := 261) X2143 hx hby at_258 (XT.i0_eq_f (by decide)) rfl ?_
     refine w_aload (pc' := 263) X2143 hx hby at_261 rfl rfl rfl ?_
     refine w_iconst (pc' := 264) (v := 4) X2143 hx hby at_263 rfl rfl ?_
     refine w_iload (pc' := 266) X2143 hx hby at_264 rfl rfl ?_
     refine w_iload (pc' := 268) X2143 hx hby at_266 rfl rfl ?_
     refine w_iload (pc' := 270) X2143 hx hby at_268 rfl rfl ?_
     refine w_aload (pc' := 272) X2143 hx hby at_270 rfl rfl rfl ?_
     refine w_aload (pc' := 274) X2143 hx hby at_272 rfl rfl rfl ?_
     obtain ⟨_, _, ⟨T2145, L2145, k2145, n2145⟩, -, X2145, ⟨Lc2145, hQ2145, l2145, y2145, z2145⟩, st2145⟩ := Jvm.LawKit.callS X2143 hx (y := (⟨"com/example/alcance/alcance/IdentifiersQuotedPinLaw", "ok", "(Ljava/lang/String;IIII[C[C)Z"⟩ : MethodName)) hown (mvT hZ (wi hw 154 rfl)) (mvT hZ (wi hw 155 rfl)) (mvT hZ (wi hw 3 rfl)) (mvT hZ (wi hw 156 rfl)) (by decide) (backOf (W := 0) (rm_ok_C l Z a0 hw [] G1 G3 ra_2099 t_2099 kt_2099 6 ([(.int (own_by qa)), (.int (own_by qb)), (.int (own_by na)), (.int (own_by nb)), (.int (own_by qa)), (.int (own_by qb))]) (.int 0) 4 2 2 a831 kc831 ([(.int qa), (.int qb)]) (.int 0) a854 kc854 ([(.int na), (.int nb), (.int nc)]) (.int 0) qa 6 T2099.heap h0.size Z2131 (O2) (P5) (O4) (rG3) fq2099_0 fq2099_1 fq2099_2 f2133 f2117 f2118 (by decide) (by decide) (⟨by decide, by decide⟩) (by rfl) (ch_qa) (by decide) (by decide) (by decide) (by rfl) Old2129) hZ (wi hw 156 rfl) (wi hw 3 rfl) (by decide) (by decide)) (g := (mkF m 274 #[.val (.int sp), .val (.int qc), .val (.int mc), .val (.int lb), .val (.int lq), .val (.int 2), .val (.int 2), .val (.ref a831), .val (.ref a854), .val (.ref ra_1797), .val (.ref ra_2034), .val (.ref a2056), .val (.ref ra_2099), .val (.int 6)] [(.ref a854), (.ref a831), (.int 2), (.int 2), (.int 6), (.int 4), (.ref ra_2099)])) rfl (by rw [hml]; rfl) (argsL := [(.ref ra_2099), (.int 4), (.int 6), (.int 2), (.int 2), (.ref a831), (.ref a854)]) (rest := []) (lenOf pd__Ljava_lang_String_IIII_C_C_Z rfl) rfl (by show 2 * 0 + _ ≤ _; exact Nat.le_of_eq rfl) (hb hby at_274) (fun _ _ => ⟨rfl, K2143, (by decide : 13 + 0 ≤ _), (by decide : 64 + 0 ≤ _)⟩)
     dsimp only [Pt.U, Pt.locs, Pt.cells, Pt.slots] at X2145 l2145 y2145 z2145 st2145 hQ2145
     subst l2145 y2145 z2145
     obtain ⟨rfl, NQ2145, K2145⟩ := hQ2145
     have N2146 := Fr.app N2144 NQ2145
     refine Rch.st (fun _ k => st2145 _ k) ?_
     show Rch p e below T2145 (mkF m 277 #[.val (.int sp), .val (.int qc), .val (.int mc), .val (.int lb), .val (.int lq), .val (.int 2), .val (.int 2), .val (.ref a831), .val (.ref a854), .val (.ref ra_1797), .val (.ref ra_2034), .val (.ref a2056), .val (.ref ra_2099), .val (.int 6)] [(.int 1)]) _
     refine w_ifNo (pc' := 280) X2145 hx hby at_277 (XT.i0_eq_f (by decide)) rfl ?_
     refine w_aload (pc' := 282) X2145 hx hby at_280 rfl rfl rfl ?_
     refine w_iconst (pc' := 283) (v := 5) X2145 hx hby at_282 rfl rfl ?_
     refine w_iload (pc' := 285) X2145 hx hby at_283 rfl rfl ?_
     refine w_iload (pc' := 287) X2145 hx hby at_285 rfl rfl ?_
     refine w_iload (pc' := 289) X2145 hx hby at_287 rfl rfl ?_
     refine w_aload (pc' := 291) X2145 hx hby at_289 rfl rfl rfl ?_
     refine w_aload (pc' := 293) X2145 hx hby at_291 rfl rfl rfl ?_
     obtain ⟨_, _, ⟨T2147, L2147, k2147, n2147⟩, -, X2147, ⟨Lc2147, hQ2147, l2147, y2147, z2147⟩, st2147⟩ := Jvm.LawKit.callS X2145 hx (y := (⟨"com/example/alcance/alcance/IdentifiersQuotedPinLaw", "ok", "(Ljava/lang/String;IIII[C[C)Z"⟩ : MethodName)) hown (mvT hZ (wi hw 154 rfl)) (mvT hZ (wi hw 155 rfl)) (mvT hZ (wi hw 3 rfl)) (mvT hZ (wi hw 156 rfl)) (by decide) (backOf (W := 0) (rm_ok_C l Z a0 hw [] G1 G3 ra_2099 t_2099 kt_2099 6 ([(.int (own_by qa)), (.int (own_by qb)), (.int (own_by na)), (.int (own_by nb)), (.int (own_by qa)), (.int (own_by qb))]) (.int 0) 5 2 2 a831 kc831 ([(.int qa), (.int qb)]) (.int 0) a854 kc854 ([(.int na), (.int nb), (.int nc)]) (.int 0) qb 6 T2099.heap h0.size Z2131 (O2) (P5) (O4) (rG3) fq2099_0 fq2099_1 fq2099_2 f2133 f2117 f2118 (by decide) (by decide) (⟨by decide, by decide⟩) (by rfl) (ch_qb) (by decide) (by decide) (by decide) (by rfl) Old2129) hZ (wi hw 156 rfl) (wi hw 3 rfl) (by decide) (by decide)) (g := (mkF m 293 #[.val (.int sp), .val (.int qc), .val (.int mc), .val (.int lb), .val (.int lq), .val (.int 2), .val (.int 2), .val (.ref a831), .val (.ref a854), .val (.ref ra_1797), .val (.ref ra_2034), .val (.ref a2056), .val (.ref ra_2099), .val (.int 6)] [(.ref a854), (.ref a831), (.int 2), (.int 2), (.int 6), (.int 5), (.ref ra_2099)])) rfl (by rw [hml]; rfl) (argsL := [(.ref ra_2099), (.int 5), (.int 6), (.int 2), (.int 2), (.ref a831), (.ref a854)]) (rest := []) (lenOf pd__Ljava_lang_String_IIII_C_C_Z rfl) rfl (by show 2 * 0 + _ ≤ _; exact Nat.le_of_eq rfl) (hb hby at_293) (fun _ _ => ⟨rfl, K2145, (by decide : 13 + 0 ≤ _), (by decide : 64 + 0 ≤ _)⟩)
     dsimp only [Pt.U, Pt.locs, Pt.cells, Pt.slots] at X2147 l2147 y2147 z2147 st2147 hQ2147
     subst l2147 y2147 z2147
     obtain ⟨rfl, NQ2147, K2147⟩ := hQ2147
     have N2148 := Fr.app N2146 NQ2147
     refine Rch.st (fun _ k => st2147 _ k) ?_
     show Rch p e below T2147 (mkF m 296 #[.val (.int sp), .val (.int qc), .val (.int mc), .val (.int lb), .val (.int lq), .val (.int 2), .val (.int 2), .val (.ref a831), .val (.ref a854), .val (.ref ra_1797), .val (.ref ra_2034), .val (.ref a2056), .val (.ref ra_2099), .val (.int 6)] [(.int 1)]) _
     refine w_ifNo (pc' := 299) X2147 hx hby at_296 (XT.i0_eq_f (by decide)) rfl ?_
     refine w_aload (pc' := 301) X2147 hx hby at_299 rfl rfl rfl ?_
     refine w_bipush (pc' := 303) (v := 6) X2147 hx hby at_301 rfl rfl ?_
     refine w_iload (pc' := 305) X2147 hx hby at_303 rfl rfl ?_
     refine w_iload (pc' := 307) X2147 hx hby at_305 rfl rfl ?_
     refine w_iload (pc' := 309) X2147 hx hby at_307 rfl rfl ?_
     refine w_aload (pc' := 311) X2147 hx hby at_309 rfl rfl rfl ?_
     refine w_aload (pc' := 313) X2147 hx hby at_311 rfl rfl rfl ?_
     obtain ⟨_, _, ⟨T2149, L2149, k2149, n2149⟩, -, X2149, ⟨Lc2149, hQ2149, l2149, y2149, z2149⟩, st2149⟩ := Jvm.LawKit.callS X2147 hx (y := (⟨"com/example/alcance/alcance/IdentifiersQuotedPinLaw", "ok", "(Ljava/lang/String;IIII[C[C)Z"⟩ : MethodName)) hown (mvT hZ (wi hw 154 rfl)) (mvT hZ (wi hw 155 rfl)) (mvT hZ (wi hw 3 rfl)) (mvT hZ (wi hw 156 rfl)) (by decide) (backOf (W := 0) (rm_ok_far l Z a0 hw [] ra_2099 6 6 2 2 a831 a854 T2099.heap h0.size Z2131 (by decide)) hZ (wi hw 156 rfl) (wi hw 3 rfl) (by decide) (by decide)) (g := (mkF m 313 #[.val (.int sp), .val (.int qc), .val (.int mc), .val (.int lb), .val (.int lq), .val (.int 2), .val (.int 2), .val (.ref a831), .val (.ref a854), .val (.ref ra_1797), .val (.ref ra_2034), .val (.ref a2056), .val (.ref ra_2099), .val (.int 6)] [(.ref a854), (.ref a831), (.int 2), (.int 2), (.int 6), (.int 6), (.ref ra_2099)])) rfl (by rw [hml]; rfl) (argsL := [(.ref ra_2099), (.int 6), (.int 6), (.int 2), (.int 2), (.ref a831), (.ref a854)]) (rest := []) (lenOf pd__Ljava_lang_String_IIII_C_C_Z rfl) rfl (by show 2 * 0 + _ ≤ _; exact Nat.le_of_eq rfl) (hb hby at_313) (fun _ _ => ⟨rfl, K2147, (by decide : 13 + 0 ≤ _), (by decide : 64 + 0 ≤ _)⟩)
     dsimp only [Pt.U, Pt.locs, Pt.cells, Pt.slots] at X2149 l2149 y2149 z2149 st2149 hQ2149
     subst l2149 y2149 z2149
     obtain ⟨rfl, NQ2149, K2149⟩ := hQ2149
     have N2150 := Fr.app N2148 NQ2149
     refine Rch.st (fun _ k => st2149 _ k) ?_
     show Rch p e below T2149 (mkF m 316 #[.val (.int sp), .val (.int qc), .val (.int mc), .val (.int lb), .val (.int lq), .val (.int 2), .val (.int 2), .val (.ref a831), .val (.ref a854), .val (.ref ra_1797), .val (.ref ra_2034), .val (.ref a2056), .val (.ref ra_2099), .val (.int 6)] [(.int 1)]) _
     refine w_ifNo (pc' := 319) X2149 hx hby at_316 (XT.i0_eq_f (by decide)) rfl ?_
     refine w_iconst (pc' := 320) (v := 1) X2149 hx hby at_319 rfl rfl ?_
     refine w_goto (pc' := 324) X2149 hx hby at_320 (by decide) ?_
     exact Rch.retVW X2149 hx hS0 (by rw [K2149]; exact hk2132) Bd.returns rfl (Or.inl ⟨rfl, by simp, _, rfl⟩) (hb hby at_324) (by rw [K2149]; exact ⟨rfl, (own_Fr Z0 N2150), Kp2130, own_ib_mono (own_ib (s := s.setVm s.vm) hI X2149.warmed) (by decide)⟩) (by decide) (by decide)
    ·skip
     show Rch p e below T1797 (mkF m 129 #[.val (.int sp), .val (.int qc), .val (.int mc), .val (.int lb), .val (.int lq), .val (.int 2), .val (.int 3), .val (.ref a831), .val (.ref a854), .val (.ref ra_1797), .unset, .unset, .unset, .unset] [(.int 0), (.ref a854), (.ref a831), (.int 3)]) _
     obtain ⟨_, _, ⟨T2151, L2151, k2151, n2151⟩, -, X2151, ⟨Lc2151, hQ2151, l2151, y2151, z2151⟩, st2151⟩ := Jvm.LawKit.callS X1797 hx (y := (⟨"com/example/alcance/alcance/IdentifiersQuotedPinLaw", "make", "(I[C[CZ)Ljava/lang/String;"⟩ : MethodName)) hown (mvT hZ (wi hw 1 rfl)) (mvT hZ (wi hw 2 rfl)) (mvT hZ (wi hw 3 rfl)) (mvT hZ (wi hw 4 rfl)) (by decide) (backOf (W := 0) (rm_mk_0_3 l Z a0 hw [] G1 a831 a854 kc854 na nb nc T1797.heap h0.size Z1809 (O2) (P5) f1806 (ch_na) (ch_nb) (ch_nc) Old1807) hZ (wi hw 4 rfl) (wi hw 3 rfl) (by decide) (by decide)) (g := (mkF m 129 #[.val (.int sp), .val (.int qc), .val (.int mc), .val (.int lb), .val (.int lq), .val (.int 2), .val (.int 3), .val (.ref a831), .val (.ref a854), .val (.ref ra_1797), .unset, .unset, .unset, .unset] [(.int 0), (.ref a854), (.ref a831), (.int 3)])) rfl (by rw [hml]; rfl) (argsL := [(.int 3), (.ref a831), (.ref a854), (.int 0)]) (rest := []) (lenOf pd__I_C_CZ_Ljava_lang_String_ rfl) rfl (by show 2 * 0 + _ ≤ _; exact Nat.le_of_eq rfl) (hb hby at_129) (fun _ _ => ⟨rfl, (rfl : T1797.heap = T1797.heap), (by decide : 5 + 3 ≤ _), (by decide : 13 + 10 ≤ _)⟩)
     dsimp only [Pt.U, Pt.locs, Pt.cells, Pt.slots] at X2151 l2151 y2151 z2151 st2151 hQ2151
     subst l2151 y2151 z2151
     obtain ⟨ra_2151, t_2151, kt_2151, rfl, NQ2151, K2151, pq2151_0, pq2151_1, fq2151_0, fq2151_1, fq2151_2, fq2151_3⟩ := hQ2151
     have N2152 := Fr.app N1798 NQ2151
     have f2163 := f1805.keep K2151 nin0
     have f2164 := f1806.keep K2151 nin0
     have f2165 := fq1797_0.keep K2151
     have f2166 := fq1797_1.keep K2151 nin0
     have f2167 := fq1797_2.keep K2151 nin0
     have f2168 := fq1797_3.keep K2151 nin0
     have Old2169 := Old1807.keep K2151 all0
     have Kp2170 : Keep h0 T2151.heap [] := Kp1808.trans K2151 all0
     have Z2171 := Nat.le_trans Z1809 K2151.1
     have hk2172 := Nat.le_trans hk1810 K2151.1
     refine Rch.st (fun _ k => st2151 _ k) ?_
     show Rch p e below T2151 (mkF m 132 #[.val (.int sp), .val (.int qc), .val (.int mc), .val (.int lb), .val (.int lq), .val (.int 2), .val (.int 3), .val (.ref a831), .val (.ref a854), .val (.ref ra_1797), .unset, .unset, .unset, .unset] [(.ref ra_2151)]) _
     refine w_astore (pc' := 134) (l' := #[.val (.int sp), .val (.int qc), .val (.int mc), .val (.int lb), .val (.int lq), .val (.int 2), .val (.int 3), .val (.ref a831), .val (.ref a854), .val (.ref ra_1797), .val (.ref ra_2151), .unset, .unset, .unset]) X2151 hx hby at_132 rfl rfl rfl ?_
     obtain ⟨T2173, h2173, X2173, e2173, E2173, A2173, D2173, -, st2173⟩ := newO X2151 hx hZ hown (wi hw 13 rfl) (wi hw 14 rfl) (wi hw 15 rfl) (rfl : T2151.heap = T2151.heap) (g := (mkF m 134 #[.val (.int sp), .val (.int qc), .val (.int mc), .val (.int lb), .val (.int lq), .val (.int 2), .val (.int 3), .val (.ref a831), .val (.ref a854), .val (.ref ra_1797), .val (.ref ra_2151), .unset, .unset, .unset] [])) rfl (hb hby at_134) (by decide) (by decide)
     obtain ⟨a2173, g2173⟩ : ∃ z, z = T2151.heap.size := ⟨_, rfl⟩
     rw [← g2173] at A2173 D2173 st2173
     have ne2174 : a831 ≠ a2173 := by rw [g2173]; exact Nat.ne_of_lt f2163.lt
     have ne2175 : a854 ≠ a2173 := by rw [g2173]; exact Nat.ne_of_lt f2164.lt
     have ne2176 : ra_1797 ≠ a2173 := by rw [g2173]; exact Nat.ne_of_lt f2165.lt
     have ne2177 : ra_2151 ≠ a2173 := by rw [g2173]; exact Nat.ne_of_lt fq2151_0.lt
     have ne2178 : t_1797 ≠ a2173 := by rw [g2173]; exact Nat.ne_of_lt f2168.lt
     have ne2179 : t_2151 ≠ a2173 := by rw [g2173]; exact Nat.ne_of_lt fq2151_3.lt
     have ge2180 : h0.size ≤ a2173 := Nat.le_trans Z2171 (Nat.le_of_eq g2173.symm)
     have hk2182 := Nat.le_trans hk2172 E2173.1
     have f2183 := f2163.ext E2173
     have f2184 := f2164.ext E2173
     have f2185 := f2165.ext E2173
     have f2186 := f2166.ext E2173
     have f2187 := f2167.ext E2173
     have f2188 := f2168.ext E2173
     have f2189 := fq2151_0.ext E2173
     have f2190 := fq2151_1.ext E2173
     have f2191 := fq2151_2.ext E2173
     have f2192 := fq2151_3.ext E2173
     have Old2193 := Old2169.ext E2173
     have Z2194 := Nat.le_trans Z2171 E2173.1
     have Kp2195 : Keep h0 h2173 [] := Kp2170.ext E2173
     have f2196 : Fld Z h2173 a2173 "com/example/alcance/alcance/Identifiers" "lowersBare" "Z" (.int (0 : Int32)) := D2173 (Or.inr (wi hw 28 rfl)) (ty := .boolean) (by decide)
     have f2197 : Fld Z h2173 a2173 "com/example/alcance/alcance/Identifiers" "lowersQuoted" "Z" (.int (0 : Int32)) := D2173 (Or.inr (wi hw 30 rfl)) (ty := .boolean) (by decide)
     have f2198 : Fld Z h2173 a2173 "com/example/alcance/alcance/Identifiers" "quote" "Ljava/lang/String;" .null := D2173 (Or.inr (wi hw 32 rfl)) (ty := (.object "java/lang/String")) (by decide)
     refine Rch.st (fun _ k => st2173 _ k) ?_
     show Rch p e below T2173 (mkF m 137 #[.val (.int sp), .val (.int qc), .val (.int mc), .val (.int lb), .val (.int lq), .val (.int 2), .val (.int 3), .val (.ref a831), .val (.ref a854), .val (.ref ra_1797), .val (.ref ra_2151), .unset, .unset, .unset] [(.ref a2173)]) _
     refine w_dup (pc' := 138) X2173 hx hby at_137 rfl rfl ?_
     refine w_iloadN (pc' := 139) X2173 hx hby at_138 rfl rfl ?_
     refine w_iload (pc' := 141) X2173 hx hby at_139 rfl rfl ?_
     refine w_aload (pc' := 143) X2173 hx hby at_141 rfl rfl rfl ?_
     obtain ⟨_, _, ⟨T2199, L2199, k2199, n2199⟩, -, X2199, ⟨Lc2199, hQ2199, l2199, y2199, z2199⟩, st2199⟩ := X2173.specialBack hx (y := (⟨"com/example/alcance/alcance/Identifiers", "<init>", "(ZZLjava/lang/String;)V"⟩ : MethodName)) rfl hown (mvT hZ (wi hw 16 rfl)) (mvT hZ (wi hw 17 rfl)) (mvT hZ (wi hw 18 rfl)) (by decide) (backOf (W := 1) (rm_id l Z a0 hw [] a2173 lb lq ra_1797 h2173 h0.size Z2194 A2173 f2196 f2197 f2198 (ge2180) (hlb) (hlq)) hZ (wi hw 18 rfl) (wi hw 15 rfl) (by decide) (by decide)) (g := (mkF m 143 #[.val (.int sp), .val (.int qc), .val (.int mc), .val (.int lb), .val (.int lq), .val (.int 2), .val (.int 3), .val (.ref a831), .val (.ref a854), .val (.ref ra_1797), .val (.ref ra_2151), .unset, .unset, .unset] [(.ref ra_1797), (.int lq), (.int lb), (.ref a2173), (.ref a2173)])) rfl (by rw [hml]; rfl) (Steps.refl _) (a := a2173) (argsL := [(.int lb), (.int lq), (.ref ra_1797)]) (rest := [(.ref a2173)]) (lenOf pd__ZZLjava_lang_String__V rfl) rfl (by show 2 * 0 + _ ≤ _; exact Nat.le_of_eq rfl) (hb hby at_143) (fun _ _ => ⟨rfl, e2173, (by decide : 9 + 0 ≤ _), (by decide : 26 + 0 ≤ _)⟩)
     dsimp only [Pt.U, Pt.locs, Pt.cells, Pt.slots] at X2199 l2199 y2199 z2199 st2199 hQ2199
     subst l2199 y2199 z2199
     obtain ⟨rfl, NQ2199, K2199, fq2199_0⟩ := hQ2199
     have N2200 := Fr.app N2152 NQ2199
     have f2201 := f2183.keep K2199 (ninS ne2174 nin0)
     have f2202 := f2184.keep K2199 (ninS ne2175 nin0)
     have f2203 := f2185.keep K2199
     have f2204 := f2186.keep K2199 (ninS ne2176 nin0)
     have f2205 := f2187.keep K2199 (ninS ne2176 nin0)
     have f2206 := f2188.keep K2199 (ninS ne2178 nin0)
     have f2207 := f2189.keep K2199
     have f2208 := f2190.keep K2199 (ninS ne2177 nin0)
     have f2209 := f2191.keep K2199 (ninS ne2177 nin0)
     have f2210 := f2192.keep K2199 (ninS ne2179 nin0)
     have f2211 := A2173.keep K2199
     have Old2212 := Old2193.keep K2199 (allS ge2180 all0)
     have Kp2213 : Keep h0 T2199.heap [] := Kp2195.trans K2199 (allS (Or.inr (Nat.le_trans Kp2170.1 (Nat.le_of_eq g2173.symm))) all0)
     have Z2214 := Nat.le_trans Z2194 K2199.1
     have hk2215 := Nat.le_trans hk2182 K2199.1
     refine Rch.st (fun _ k => st2199.trans k) ?_
     show Rch p e below T2199 (mkF m 146 #[.val (.int sp), .val (.int qc), .val (.int mc), .val (.int lb), .val (.int lq), .val (.int 2), .val (.int 3), .val (.ref a831), .val (.ref a854), .val (.ref ra_1797), .val (.ref ra_2151), .unset, .unset, .unset] [(.ref a2173)]) _
     refine w_astore (pc' := 148) (l' := #[.val (.int sp), .val (.int qc), .val (.int mc), .val (.int lb), .val (.int lq), .val (.int 2), .val (.int 3), .val (.ref a831), .val (.ref a854), .val (.ref ra_1797), .val (.ref ra_2151), .val (.ref a2173), .unset, .unset]) X2199 hx hby at_146 rfl rfl rfl ?_
     refine w_aload (pc' := 150) X2199 hx hby at_148 rfl rfl rfl ?_
     refine w_aload (pc' := 152) X2199 hx hby at_150 rfl rfl rfl ?_
     obtain ⟨cq2216, kq2216, q2216a, q2216b, q2216c⟩ := isOf hZ (rfl : T2199.heap = T2199.heap) f2211
     obtain ⟨_, _, ⟨T2216, L2216, k2216, n2216⟩, -, X2216, ⟨Lc2216, hQ2216, l2216, y2216, z2216⟩, st2216⟩ := X2199.virtualBack hx (y := (⟨"com/example/alcance/alcance/Identifiers", "quoted", "(Ljava/lang/String;)Ljava/lang/String;"⟩ : MethodName)) (z := (⟨"com/example/alcance/alcance/Identifiers", "quoted", "(Ljava/lang/String;)Ljava/lang/String;"⟩ : MethodName)) hown (mvT hZ (wi hw 33 rfl)) (mvT hZ (wi hw 34 rfl)) (notFace_of_selects (args := #[]) (mvT hZ (wi hw 36 rfl))) (mvT hZ (wi hw 36 rfl)) (mvT hZ (wi hw 35 rfl)) (by decide) (backOf (W := 0) (rm_qu l Z a0 hw [] G1 a2173 ra_1797 t_1797 kt_1797 2 ([(.int (own_by qa)), (.int (own_by qb))]) (.int 0) ra_2151 t_2151 kt_2151 3 ([(.int (own_by na)), (.int (own_by nb)), (.int (own_by nc))]) (.int 0) T2199.heap h0.size Z2214 (O2) (P5) fq2199_0 f2203 f2204 f2205 f2206 f2207 f2208 f2209 f2210 (by decide) (by decide) (by decide) (by decide) (by decide) (by decide) (by decide) (by decide) (by decide) (by decide) (by decide) (by decide) (by decide) (by decide) Old2212) hZ (wi hw 37 rfl) (wi hw 15 rfl) (by decide) (by decide)) q2216a q2216c (g := (mkF m 152 #[.val (.int sp), .val (.int qc), .val (.int mc), .val (.int lb), .val (.int lq), .val (.int 2), .val (.int 3), .val (.ref a831), .val (.ref a854), .val (.ref ra_1797), .val (.ref ra_2151), .val (.ref a2173), .unset, .unset] [(.ref ra_2151), (.ref a2173)])) rfl (by rw [hml]; rfl) (Steps.refl _) (argsL := [(.ref ra_2151)]) (rest := []) (lenOf pd__Ljava_lang_String__Ljava_lang_String_ rfl) rfl (by show 2 * 0 + _ ≤ _; exact Nat.le_of_eq rfl) (hb hby at_152) (fun _ _ => ⟨rfl, (rfl : T2199.heap = T2199.heap), (by decide : 9 + 4 ≤ _), (by decide : 26 + 40 ≤ _)⟩)
     dsimp only [Pt.U, Pt.locs, Pt.cells, Pt.slots] at X2216 l2216 y2216 z2216 st2216 hQ2216
     subst l2216 y2216 z2216
     obtain ⟨ra_2216, t_2216, kt_2216, rfl, NQ2216, K2216, pq2216_0, pq2216_1, fq2216_0, fq2216_1, fq2216_2, fq2216_3⟩ := hQ2216
     have N2217 := Fr.app N2200 NQ2216
     have f2234 := f2201.keep K2216 nin0
     have f2235 := f2202.keep K2216 nin0
     have Old2246 := Old2212.keep K2216 all0
     have Kp2247 : Keep h0 T2216.heap [] := Kp2213.trans K2216 all0
     have Z2248 := Nat.le_trans Z2214 K2216.1
     have hk2249 := Nat.le_trans hk2215 K2216.1
     refine Rch.st (fun _ k => st2216.trans k) ?_
     show Rch p e below T2216 (mkF m 155 #[.val (.int sp), .val (.int qc), .val (.int mc), .val (.int lb), .val (.int lq), .val (.int 2), .val (.int 3), .val (.ref a831), .val (.ref a854), .val (.ref ra_1797), .val (.ref ra_2151), .val (.ref a2173), .unset, .unset] [(.ref ra_2216)]) _
     have f2250 : Arv Z T2216.heap t_2216 kt_2216 .byte (7 : Int32) [(.int (own_by qa)), (.int (own_by qb)), (.int (own_by na)), (.int (own_by nb)), (.int (own_by nc)), (.int (own_by qa)), (.int (own_by qb))] (.int (0 : Int32)) := by have z := fq2216_3; rw [show ((((0 : Int32) + (2 : Int32)) + (3 : Int32)) + (2 : Int32)) = (7 : Int32) from by decide, own_cat, own_t2, own_t3] at z; exact z
     refine w_astore (pc' := 157) (l' := #[.val (.int sp), .val (.int qc), .val (.int mc), .val (.int lb), .val (.int lq), .val (.int 2), .val (.int 3), .val (.ref a831), .val (.ref a854), .val (.ref ra_1797), .val (.ref ra_2151), .val (.ref a2173), .val (.ref ra_2216), .unset]) X2216 hx hby at_155 rfl rfl rfl ?_
     refine w_aload (pc' := 159) X2216 hx hby at_157 rfl rfl rfl ?_
     refine w_nonnullYes (pc' := 164) X2216 hx hby at_159 rfl (fun q => nomatch q) (by decide) ?_
     refine w_iconst (pc' := 165) (v := 2) X2216 hx hby at_164 rfl rfl ?_
     refine w_iload (pc' := 167) X2216 hx hby at_165 rfl rfl ?_
     refine w_imul (pc' := 168) X2216 hx hby at_167 rfl ?_
     refine w_iload (pc' := 170) X2216 hx hby at_168 rfl rfl ?_
     refine w_iadd (pc' := 171) X2216 hx hby at_170 rfl ?_
     have r2251 : (((2 : Int32) * (2 : Int32)) + (3 : Int32)) = (7 : Int32) := by decide
     rw [r2251]
     show Rch p e below T2216 (mkF m 171 #[.val (.int sp), .val (.int qc), .val (.int mc), .val (.int lb), .val (.int lq), .val (.int 2), .val (.int 3), .val (.ref a831), .val (.ref a854), .val (.ref ra_1797), .val (.ref ra_2151), .val (.ref a2173), .val (.ref ra_2216), .unset] [(.int 7)]) _
     refine w_istore (pc' := 173) (l' := #[.val (.int sp), .val (.int qc), .val (.int mc), .val (.int lb), .val (.int lq), .val (.int 2), .val (.int 3), .val (.ref a831), .val (.ref a854), .val (.ref ra_1797), .val (.ref ra_2151), .val (.ref a2173), .val (.ref ra_2216), .val (.int 7)]) X2216 hx hby at_171 rfl rfl ?_
     refine w_aload (pc' := 175) X2216 hx hby at_173 rfl rfl rfl ?_
     obtain ⟨cq2252, kq2252, q2252a, q2252b, q2252c⟩ := isOf hZ (rfl : T2216.heap = T2216.heap) fq2216_0
     obtain ⟨_, _, ⟨T2252, L2252, k2252, n2252⟩, -, X2252, ⟨Lc2252, hQ2252, l2252, y2252, z2252⟩, st2252⟩ := X2216.virtualBack hx (y := (⟨"java/lang/String", "length", "()I"⟩ : MethodName)) (z := (⟨"java/lang/String", "length", "()I"⟩ : MethodName)) hown (mvT hZ (wi hw 153 rfl)) (mvT hZ (wi hw 67 rfl)) (notFace_of_selects (args := #[]) (mvT hZ (wi hw 69 rfl))) (mvT hZ (wi hw 69 rfl)) (mvT hZ (wi hw 68 rfl)) (by decide) (backOf (W := 0) (rm_length l Z a0 hw [] G1 ra_2216 0 t_2216 kt_2216 7 ([(.int (own_by qa)), (.int (own_by qb)), (.int (own_by na)), (.int (own_by nb)), (.int (own_by nc)), (.int (own_by qa)), (.int (own_by qb))]) (.int 0) T2216.heap h0.size Z2248 (O2) (P5) fq2216_1 (Or.inl rfl) fq2216_2 f2250 fq2216_0 Old2246) hZ (wi hw 70 rfl) (wi hw 6 rfl) (by decide) (by decide)) q2252a q2252c (g := (mkF m 175 #[.val (.int sp), .val (.int qc), .val (.int mc), .val (.int lb), .val (.int lq), .val (.int 2), .val (.int 3), .val (.ref a831), .val (.ref a854), .val (.ref ra_1797), .val (.ref ra_2151), .val (.ref a2173), .val (.ref ra_2216), .val (.int 7)] [(.ref ra_2216)])) rfl (by rw [hml]; rfl) (Steps.refl _) (argsL := []) (rest := []) (lenOf pd___I rfl) rfl (by show 2 * 0 + _ ≤ _; exact Nat.le_of_eq rfl) (hb hby at_175) (fun _ _ => ⟨rfl, (rfl : T2216.heap = T2216.heap), (by decide : 13 + 0 ≤ _), (by decide : 66 + 0 ≤ _)⟩)
     dsimp only [Pt.U, Pt.locs, Pt.cells, Pt.slots] at X2252 l2252 y2252 z2252 st2252 hQ2252
     subst l2252 y2252 z2252
     obtain ⟨rfl, NQ2252, K2252⟩ := hQ2252
     have N2253 := Fr.app N2217 NQ2252
     refine Rch.st (fun _ k => st2252.trans k) ?_
     show Rch p e below T2252 (mkF m 178 #[.val (.int sp), .val (.int qc), .val (.int mc), .val (.int lb), .val (.int lq), .val (.int 2), .val (.int 3), .val (.ref a831), .val (.ref a854), .val (.ref ra_1797), .val (.ref ra_2151), .val (.ref a2173), .val (.ref ra_2216), .val (.int 7)] [(.int ((7 : Int32) >>> ((0 : Int32) &&& 31)))]) _
     refine w_iload (pc' := 180) X2252 hx hby at_178 rfl rfl ?_
     refine w_icmpYes (pc' := 185) X2252 hx hby at_180 (XT.ii_eq_t (by decide)) (by decide) ?_
     refine w_aload (pc' := 187) X2252 hx hby at_185 rfl rfl rfl ?_
     refine w_iconst (pc' := 188) (v := 0) X2252 hx hby at_187 rfl rfl ?_
     refine w_iload (pc' := 190) X2252 hx hby at_188 rfl rfl ?_
     refine w_iload (pc' := 192) X2252 hx hby at_190 rfl rfl ?_
     refine w_iload (pc' := 194) X2252 hx hby at_192 rfl rfl ?_
     refine w_aload (pc' := 196) X2252 hx hby at_194 rfl rfl rfl ?_
     refine w_aload (pc' := 198) X2252 hx hby at_196 rfl rfl rfl ?_
     obtain ⟨_, _, ⟨T2254, L2254, k2254, n2254⟩, -, X2254, ⟨Lc2254, hQ2254, l2254, y2254, z2254⟩, st2254⟩ := Jvm.LawKit.callS X2252 hx (y := (⟨"com/example/alcance/alcance/IdentifiersQuotedPinLaw", "ok", "(Ljava/lang/String;IIII[C[C)Z"⟩ : MethodName)) hown (mvT hZ (wi hw 154 rfl)) (mvT hZ (wi hw 155 rfl)) (mvT hZ (wi hw 3 rfl)) (mvT hZ (wi hw 156 rfl)) (by decide) (backOf (W := 0) (rm_ok_A l Z a0 hw [] G1 G3 ra_2216 t_2216 kt_2216 7 ([(.int (own_by qa)), (.int (own_by qb)), (.int (own_by na)), (.int (own_by nb)), (.int (own_by nc)), (.int (own_by qa)), (.int (own_by qb))]) (.int 0) 0 2 3 a831 kc831 ([(.int qa), (.int qb)]) (.int 0) a854 kc854 ([(.int na), (.int nb), (.int nc)]) (.int 0) qa 7 T2216.heap h0.size Z2248 (O2) (P5) (O4) (rG3) fq2216_0 fq2216_1 fq2216_2 f2250 f2234 f2235 (by decide) (⟨by decide, by decide⟩) (by rfl) (ch_qa) (by decide) (by decide) (by decide) (by rfl) Old2246) hZ (wi hw 156 rfl) (wi hw 3 rfl) (by decide) (by decide)) (g := (mkF m 198 #[.val (.int sp), .val (.int qc), .val (.int mc), .val (.int lb), .val (.int lq), .val (.int 2), .val (.int 3), .val (.ref a831), .val (.ref a854), .val (.ref ra_1797), .val (.ref ra_2151), .val (.ref a2173), .val (.ref ra_2216), .val (.int 7)] [(.ref a854), (.ref a831), (.int 3), (.int 2), (.int 7), (.int 0), (.ref ra_2216)])) rfl (by rw [hml]; rfl) (argsL := [(.ref ra_2216), (.int 0), (.int 7), (.int 2), (.int 3), (.ref a831), (.ref a854)]) (rest := []) (lenOf pd__Ljava_lang_String_IIII_C_C_Z rfl) rfl (by show 2 * 0 + _ ≤ _; exact Nat.le_of_eq rfl) (hb hby at_198) (fun _ _ => ⟨rfl, K2252, (by decide : 13 + 0 ≤ _), (by decide : 66 + 0 ≤ _)⟩)
     dsimp only [Pt.U, Pt.locs, Pt.cells, Pt.slots] at X2254 l2254 y2254 z2254 st2254 hQ2254
     subst l2254 y2254 z2254
     obtain ⟨rfl, NQ2254, K2254⟩ := hQ2254
     have N2255 := Fr.app N2253 NQ2254
     refine Rch.st (fun _ k => st2254 _ k) ?_
     show Rch p e below T2254 (mkF m 201 #[.val (.int sp), .val (.int qc), .val (.int mc), .val (.int lb), .val (.int lq), .val (.int 2), .val (.int 3), .val (.ref a831), .val (.ref a854), .val (.ref ra_1797), .val (.ref ra_2151), .val (.ref a2173), .val (.ref ra_2216), .val (.int 7)] [(.int 1)]) _
     refine w_ifNo (pc' := 204) X2254 hx hby at_201 (XT.i0_eq_f (by decide)) rfl ?_
     refine w_aload (pc' := 206) X2254 hx hby at_204 rfl rfl rfl ?_
     refine w_iconst (pc' := 207) (v := 1) X2254 hx hby at_206 rfl rfl ?_
     refine w_iload (pc' := 209) X2254 hx hby at_207 rfl rfl ?_
     refine w_iload (pc' := 211) X2254 hx hby at_209 rfl rfl ?_
     refine w_iload (pc' := 213) X2254 hx hby at_211 rfl rfl ?_
     refine w_aload (pc' := 215) X2254 hx hby at_213 rfl rfl rfl ?_
     refine w_aload (pc' := 217) X2254 hx hby at_215 rfl rfl rfl ?_
     obtain ⟨_, _, ⟨T2256, L2256, k2256, n2256⟩, -, X2256, ⟨Lc2256, hQ2256, l2256, y2256, z2256⟩, st2256⟩ := Jvm.LawKit.callS X2254 hx (y := (⟨"com/example/alcance/alcance/IdentifiersQuotedPinLaw", "ok", "(Ljava/lang/String;IIII[C[C)Z"⟩ : MethodName)) hown (mvT hZ (wi hw 154 rfl)) (mvT hZ (wi hw 155 rfl)) (mvT hZ (wi hw 3 rfl)) (mvT hZ (wi hw 156 rfl)) (by decide) (backOf (W := 0) (rm_ok_A l Z a0 hw [] G1 G3 ra_2216 t_2216 kt_2216 7 ([(.int (own_by qa)), (.int (own_by qb)), (.int (own_by na)), (.int (own_by nb)), (.int (own_by nc)), (.int (own_by qa)), (.int (own_by qb))]) (.int 0) 1 2 3 a831 kc831 ([(.int qa), (.int qb)]) (.int 0) a854 kc854 ([(.int na), (.int nb), (.int nc)]) (.int 0) qb 7 T2216.heap h0.size Z2248 (O2) (P5) (O4) (rG3) fq2216_0 fq2216_1 fq2216_2 f2250 f2234 f2235 (by decide) (⟨by decide, by decide⟩) (by rfl) (ch_qb) (by decide) (by decide) (by decide) (by rfl) Old2246) hZ (wi hw 156 rfl) (wi hw 3 rfl) (by decide) (by decide)) (g := (mkF m 217 #[.val (.int sp), .val (.int qc), .val (.int mc), .val (.int lb), .val (.int lq), .val (.int 2), .val (.int 3), .val (.ref a831), .val (.ref a854), .val (.ref ra_1797), .val (.ref ra_2151), .val (.ref a2173), .val (.ref ra_2216), .val (.int 7)] [(.ref a854), (.ref a831), (.int 3), (.int 2), (.int 7), (.int 1), (.ref ra_2216)])) rfl (by rw [hml]; rfl) (argsL := [(.ref ra_2216), (.int 1), (.int 7), (.int 2), (.int 3), (.ref a831), (.ref a854)]) (rest := []) (lenOf pd__Ljava_lang_String_IIII_C_C_Z rfl) rfl (by show 2 * 0 + _ ≤ _; exact Nat.le_of_eq rfl) (hb hby at_217) (fun _ _ => ⟨rfl, K2254, (by decide : 13 + 0 ≤ _), (by decide : 66 + 0 ≤ _)⟩)
     dsimp only [Pt.U, Pt.locs, Pt.cells, Pt.slots] at X2256 l2256 y2256 z2256 st2256 hQ2256
     subst l2256 y2256 z2256
     obtain ⟨rfl, NQ2256, K2256⟩ := hQ2256
     have N2257 := Fr.app N2255 NQ2256
     refine Rch.st (fun _ k => st2256 _ k) ?_
     show Rch p e below T2256 (mkF m 220 #[.val (.int sp), .val (.int qc), .val (.int mc), .val (.int lb), .val (.int lq), .val (.int 2), .val (.int 3), .val (.ref a831), .val (.ref a854), .val (.ref ra_1797), .val (.ref ra_2151), .val (.ref a2173), .val (.ref ra_2216), .val (.int 7)] [(.int 1)]) _
     refine w_ifNo (pc' := 223) X2256 hx hby at_220 (XT.i0_eq_f (by decide)) rfl ?_
     refine w_aload (pc' := 225) X2256 hx hby at_223 rfl rfl rfl ?_
     refine w_iconst (pc' := 226) (v := 2) X2256 hx hby at_225 rfl rfl ?_
     refine w_iload (pc' := 228) X2256 hx hby at_226 rfl rfl ?_
     refine w_iload (pc' := 230) X2256 hx hby at_228 rfl rfl ?_
     refine w_iload (pc' := 232) X2256 hx hby at_230 rfl rfl ?_
     refine w_aload (pc' := 234) X2256 hx hby at_232 rfl rfl rfl ?_
     refine w_aload (pc' := 236) X2256 hx hby at_234 rfl rfl rfl ?_
     obtain ⟨_, _, ⟨T2258, L2258, k2258, n2258⟩, -, X2258, ⟨Lc2258, hQ2258, l2258, y2258, z2258⟩, st2258⟩ := Jvm.LawKit.callS X2256 hx (y := (⟨"com/example/alcance/alcance/IdentifiersQuotedPinLaw", "ok", "(Ljava/lang/String;IIII[C[C)Z"⟩ : MethodName)) hown (mvT hZ (wi hw 154 rfl)) (mvT hZ (wi hw 155 rfl)) (mvT hZ (wi hw 3 rfl)) (mvT hZ (wi hw 156 rfl)) (by decide) (backOf (W := 0) (rm_ok_B l Z a0 hw [] G1 G3 ra_2216 t_2216 kt_2216 7 ([(.int (own_by qa)), (.int (own_by qb)), (.int (own_by na)), (.int (own_by nb)), (.int (own_by nc)), (.int (own_by qa)), (.int (own_by qb))]) (.int 0) 2 2 3 a831 kc831 ([(.int qa), (.int qb)]) (.int 0) a854 kc854 ([(.int na), (.int nb), (.int nc)]) (.int 0) na 7 T2216.heap h0.size Z2248 (O2) (P5) (O4) (rG3) fq2216_0 fq2216_1 fq2216_2 f2250 f2234 f2235 (by decide) (by decide) (⟨by decide, by decide⟩) (by rfl) (ch_na) (by decide) (by decide) (by decide) (by rfl) Old2246) hZ (wi hw 156 rfl) (wi hw 3 rfl) (by decide) (by decide)) (g := (mkF m 236 #[.val (.int sp), .val (.int qc), .val (.int mc), .val (.int lb), .val (.int lq), .val (.int 2), .val (.int 3), .val (.ref a831), .val (.ref a854), .val (.ref ra_1797), .val (.ref ra_2151), .val (.ref a2173), .val (.ref ra_2216), .val (.int 7)] [(.ref a854), (.ref a831), (.int 3), (.int 2), (.int 7), (.int 2), (.ref ra_2216)])) rfl (by rw [hml]; rfl) (argsL := [(.ref ra_2216), (.int 2), (.int 7), (.int 2), (.int 3), (.ref a831), (.ref a854)]) (rest := []) (lenOf pd__Ljava_lang_String_IIII_C_C_Z rfl) rfl (by show 2 * 0 + _ ≤ _; exact Nat.le_of_eq rfl) (hb hby at_236) (fun _ _ => ⟨rfl, K2256, (by decide : 13 + 0 ≤ _), (by decide : 66 + 0 ≤ _)⟩)
     dsimp only [Pt.U, Pt.locs, Pt.cells, Pt.slots] at X2258 l2258 y2258 z2258 st2258 hQ2258
     subst l2258 y2258 z2258
     obtain ⟨rfl, NQ2258, K2258⟩ := hQ2258
     have N2259 := Fr.app N2257 NQ2258
     refine Rch.st (fun _ k => st2258 _ k) ?_
     show Rch p e below T2258 (mkF m 239 #[.val (.int sp), .val (.int qc), .val (.int mc), .val (.int lb), .val (.int lq), .val (.int 2), .val (.int 3), .val (.ref a831), .val (.ref a854), .val (.ref ra_1797), .val (.ref ra_2151), .val (.ref a2173), .val (.ref ra_2216), .val (.int 7)] [(.int 1)]) _
     refine w_ifNo (pc' := 242) X2258 hx hby at_239 (XT.i0_eq_f (by decide)) rfl ?_
     refine w_aload (pc' := 244) X2258 hx hby at_242 rfl rfl rfl ?_
     refine w_iconst (pc' := 245) (v := 3) X2258 hx hby at_244 rfl rfl ?_
     refine w_iload (pc' := 247) X2258 hx hby at_245 rfl rfl ?_
     refine w_iload (pc' := 249) X2258 hx hby at_247 rfl rfl ?_
     refine w_iload (pc' := 251) X2258 hx hby at_249 rfl rfl ?_
     refine w_aload (pc' := 253) X2258 hx hby at_251 rfl rfl rfl ?_
     refine w_aload (pc' := 255) X2258 hx hby at_253 rfl rfl rfl ?_
     obtain ⟨_, _, ⟨T2260, L2260, k2260, n2260⟩, -, X2260, ⟨Lc2260, hQ2260, l2260, y2260, z2260⟩, st2260⟩ := Jvm.LawKit.callS X2258 hx (y := (⟨"com/example/alcance/alcance/IdentifiersQuotedPinLaw", "ok", "(Ljava/lang/String;IIII[C[C)Z"⟩ : MethodName)) hown (mvT hZ (wi hw 154 rfl)) (mvT hZ (wi hw 155 rfl)) (mvT hZ (wi hw 3 rfl)) (mvT hZ (wi hw 156 rfl)) (by decide) (backOf (W := 0) (rm_ok_B l Z a0 hw [] G1 G3 ra_2216 t_2216 kt_2216 7 ([(.int (own_by qa)), (.int (own_by qb)), (.int (own_by na)), (.int (own_by nb)), (.int (own_by nc)), (.int (own_by qa)), (.int (own_by qb))]) (.int 0) 3 2 3 a831 kc831 ([(.int qa), (.int qb)]) (.int 0) a854 kc854 ([(.int na), (.int nb), (.int nc)]) (.int 0) nb 7 T2216.heap h0.size Z2248 (O2) (P5) (O4) (rG3) fq2216_0 fq2216_1 fq2216_2 f2250 f2234 f2235 (by decide) (by decide) (⟨by decide, by decide⟩) (by rfl) (ch_nb) (by decide) (by decide) (by decide) (by rfl) Old2246) hZ (wi hw 156 rfl) (wi hw 3 rfl) (by decide) (by decide)) (g := (mkF m 255 #[.val (.int sp), .val (.int qc), .val (.int mc), .val (.int lb), .val (.int lq), .val (.int 2), .val (.int 3), .val (.ref a831), .val (.ref a854), .val (.ref ra_1797), .val (.ref ra_2151), .val (.ref a2173), .val (.ref ra_2216), .val (.int 7)] [(.ref a854), (.ref a831), (.int 3), (.int 2), (.int 7), (.int 3), (.ref ra_2216)])) rfl (by rw [hml]; rfl) (argsL := [(.ref ra_2216), (.int 3), (.int 7), (.int 2), (.int 3), (.ref a831), (.ref a854)]) (rest := []) (lenOf pd__Ljava_lang_String_IIII_C_C_Z rfl) rfl (by show 2 * 0 + _ ≤ _; exact Nat.le_of_eq rfl) (hb hby at_255) (fun _ _ => ⟨rfl, K2258, (by decide : 13 + 0 ≤ _), (by decide : 66 + 0 ≤ _)⟩)
     dsimp only [Pt.U, Pt.locs, Pt.cells, Pt.slots] at X2260 l2260 y2260 z2260 st2260 hQ2260
     subst l2260 y2260 z2260
     obtain ⟨rfl, NQ2260, K2260⟩ := hQ2260
     have N2261 := Fr.app N2259 NQ2260
     refine Rch.st (fun _ k => st2260 _ k) ?_
     show Rch p e below T2260 (mkF m 258 #[.val (.int sp), .val (.int qc), .val (.int mc), .val (.int lb), .val (.int lq), .val (.int 2), .val (.int 3), .val (.ref a831), .val (.ref a854), .val (.ref ra_1797), .val (.ref ra_2151), .val (.ref a2173), .val (.ref ra_2216), .val (.int 7)] [(.int 1)]) _
     refine w_ifNo (pc' := 261) X2260 hx hby at_258 (XT.i0_eq_f (by decide)) rfl ?_
     refine w_aload (pc' := 263) X2260 hx hby at_261 rfl rfl rfl ?_
     refine w_iconst (pc' := 264) (v := 4) X2260 hx hby at_263 rfl rfl ?_
     refine w_iload (pc' := 266) X2260 hx hby at_264 rfl rfl ?_
     refine w_iload (pc' := 268) X2260 hx hby at_266 rfl rfl ?_
     refine w_iload (pc' := 270) X2260 hx hby at_268 rfl rfl ?_
     refine w_aload (pc' := 272) X2260 hx hby at_270 rfl rfl rfl ?_
     refine w_aload (pc' := 274) X2260 hx hby at_272 rfl rfl rfl ?_
     obtain ⟨_, _, ⟨T2262, L2262, k2262, n2262⟩, -, X2262, ⟨Lc2262, hQ2262, l2262, y2262, z2262⟩, st2262⟩ := Jvm.LawKit.callS X2260 hx (y := (⟨"com/example/alcance/alcance/IdentifiersQuotedPinLaw", "ok", "(Ljava/lang/String;IIII[C[C)Z"⟩ : MethodName)) hown (mvT hZ (wi hw 154 rfl)) (mvT hZ (wi hw 155 rfl)) (mvT hZ (wi hw 3 rfl)) (mvT hZ (wi hw 156 rfl)) (by decide) (backOf (W := 0) (rm_ok_B l Z a0 hw [] G1 G3 ra_2216 t_2216 kt_2216 7 ([(.int (own_by qa)), (.int (own_by qb)), (.int (own_by na)), (.int (own_by nb)), (.int (own_by nc)), (.int (own_by qa)), (.int (own_by qb))]) (.int 0) 4 2 3 a831 kc831 ([(.int qa), (.int qb)]) (.int 0) a854 kc854 ([(.int na), (.int nb), (.int nc)]) (.int 0) nc 7 T2216.heap h0.size Z2248 (O2) (P5) (O4) (rG3) fq2216_0 fq2216_1 fq2216_2 f2250 f2234 f2235 (by decide) (by decide) (⟨by decide, by decide⟩) (by rfl) (ch_nc) (by decide) (by decide) (by decide) (by rfl) Old2246) hZ (wi hw 156 rfl) (wi hw 3 rfl) (by decide) (by decide)) (g := (mkF m 274 #[.val (.int sp), .val (.int qc), .val (.int mc), .val (.int lb), .val (.int lq), .val (.int 2), .val (.int 3), .val (.ref a831), .val (.ref a854), .val (.ref ra_1797), .val (.ref ra_2151), .val (.ref a2173), .val (.ref ra_2216), .val (.int 7)] [(.ref a854), (.ref a831), (.int 3), (.int 2), (.int 7), (.int 4), (.ref ra_2216)])) rfl (by rw [hml]; rfl) (argsL := [(.ref ra_2216), (.int 4), (.int 7), (.int 2), (.int 3), (.ref a831), (.ref a854)]) (rest := []) (lenOf pd__Ljava_lang_String_IIII_C_C_Z rfl) rfl (by show 2 * 0 + _ ≤ _; exact Nat.le_of_eq rfl) (hb hby at_274) (fun _ _ => ⟨rfl, K2260, (by decide : 13 + 0 ≤ _), (by decide : 66 + 0 ≤ _)⟩)
     dsimp only [Pt.U, Pt.locs, Pt.cells, Pt.slots] at X2262 l2262 y2262 z2262 st2262 hQ2262
     subst l2262 y2262 z2262
     obtain ⟨rfl, NQ2262, K2262⟩ := hQ2262
     have N2263 := Fr.app N2261 NQ2262
     refine Rch.st (fun _ k => st2262 _ k) ?_
     show Rch p e below T2262 (mkF m 277 #[.val (.int sp), .val (.int qc), .val (.int mc), .val (.int lb), .val (.int lq), .val (.int 2), .val (.int 3), .val (.ref a831), .val (.ref a854), .val (.ref ra_1797), .val (.ref ra_2151), .val (.ref a2173), .val (.ref ra_2216), .val (.int 7)] [(.int 1)]) _
     refine w_ifNo (pc' := 280) X2262 hx hby at_277 (XT.i0_eq_f (by decide)) rfl ?_
     refine w_aload (pc' := 282) X2262 hx hby at_280 rfl rfl rfl ?_
     refine w_iconst (pc' := 283) (v := 5) X2262 hx hby at_282 rfl rfl ?_
     refine w_iload (pc' := 285) X2262 hx hby at_283 rfl rfl ?_
     refine w_iload (pc' := 287) X2262 hx hby at_285 rfl rfl ?_
     refine w_iload (pc' := 289) X2262 hx hby at_287 rfl rfl ?_
     refine w_aload (pc' := 291) X2262 hx hby at_289 rfl rfl rfl ?_
     refine w_aload (pc' := 293) X2262 hx hby at_291 rfl rfl rfl ?_
     obtain ⟨_, _, ⟨T2264, L2264, k2264, n2264⟩, -, X2264, ⟨Lc2264, hQ2264, l2264, y2264, z2264⟩, st2264⟩ := Jvm.LawKit.callS X2262 hx (y := (⟨"com/example/alcance/alcance/IdentifiersQuotedPinLaw", "ok", "(Ljava/lang/String;IIII[C[C)Z"⟩ : MethodName)) hown (mvT hZ (wi hw 154 rfl)) (mvT hZ (wi hw 155 rfl)) (mvT hZ (wi hw 3 rfl)) (mvT hZ (wi hw 156 rfl)) (by decide) (backOf (W := 0) (rm_ok_C l Z a0 hw [] G1 G3 ra_2216 t_2216 kt_2216 7 ([(.int (own_by qa)), (.int (own_by qb)), (.int (own_by na)), (.int (own_by nb)), (.int (own_by nc)), (.int (own_by qa)), (.int (own_by qb))]) (.int 0) 5 2 3 a831 kc831 ([(.int qa), (.int qb)]) (.int 0) a854 kc854 ([(.int na), (.int nb), (.int nc)]) (.int 0) qa 7 T2216.heap h0.size Z2248 (O2) (P5) (O4) (rG3) fq2216_0 fq2216_1 fq2216_2 f2250 f2234 f2235 (by decide) (by decide) (⟨by decide, by decide⟩) (by rfl) (ch_qa) (by decide) (by decide) (by decide) (by rfl) Old2246) hZ (wi hw 156 rfl) (wi hw 3 rfl) (by decide) (by decide)) (g := (mkF m 293 #[.val (.int sp), .val (.int qc), .val (.int mc), .val (.int lb), .val (.int lq), .val (.int 2), .val (.int 3), .val (.ref a831), .val (.ref a854), .val (.ref ra_1797), .val (.ref ra_2151), .val (.ref a2173), .val (.ref ra_2216), .val (.int 7)] [(.ref a854), (.ref a831), (.int 3), (.int 2), (.int 7), (.int 5), (.ref ra_2216)])) rfl (by rw [hml]; rfl) (argsL := [(.ref ra_2216), (.int 5), (.int 7), (.int 2), (.int 3), (.ref a831), (.ref a854)]) (rest := []) (lenOf pd__Ljava_lang_String_IIII_C_C_Z rfl) rfl (by show 2 * 0 + _ ≤ _; exact Nat.le_of_eq rfl) (hb hby at_293) (fun _ _ => ⟨rfl, K2262, (by decide : 13 + 0 ≤ _), (by decide : 66 + 0 ≤ _)⟩)
     dsimp only [Pt.U, Pt.locs, Pt.cells, Pt.slots] at X2264 l2264 y2264 z2264 st2264 hQ2264
     subst l2264 y2264 z2264
     obtain ⟨rfl, NQ2264, K2264⟩ := hQ2264
     have N2265 := Fr.app N2263 NQ2264
     refine Rch.st (fun _ k => st2264 _ k) ?_
     show Rch p e below T2264 (mkF m 296 #[.val (.int sp), .val (.int qc), .val (.int mc), .val (.int lb), .val (.int lq), .val (.int 2), .val (.int 3), .val (.ref a831), .val (.ref a854), .val (.ref ra_1797), .val (.ref ra_2151), .val (.ref a2173), .val (.ref ra_2216), .val (.int 7)] [(.int 1)]) _
     refine w_ifNo (pc' := 299) X2264 hx hby at_296 (XT.i0_eq_f (by decide)) rfl ?_
     refine w_aload (pc' := 301) X2264 hx hby at_299 rfl rfl rfl ?_
     refine w_bipush (pc' := 303) (v := 6) X2264 hx hby at_301 rfl rfl ?_
     refine w_iload (pc' := 305) X2264 hx hby at_303 rfl rfl ?_
     refine w_iload (pc' := 307) X2264 hx hby at_305 rfl rfl ?_
     refine w_iload (pc' := 309) X2264 hx hby at_307 rfl rfl ?_
     refine w_aload (pc' := 311) X2264 hx hby at_309 rfl rfl rfl ?_
     refine w_aload (pc' := 313) X2264 hx hby at_311 rfl rfl rfl ?_
     obtain ⟨_, _, ⟨T2266, L2266, k2266, n2266⟩, -, X2266, ⟨Lc2266, hQ2266, l2266, y2266, z2266⟩, st2266⟩ := Jvm.LawKit.callS X2264 hx (y := (⟨"com/example/alcance/alcance/IdentifiersQuotedPinLaw", "ok", "(Ljava/lang/String;IIII[C[C)Z"⟩ : MethodName)) hown (mvT hZ (wi hw 154 rfl)) (mvT hZ (wi hw 155 rfl)) (mvT hZ (wi hw 3 rfl)) (mvT hZ (wi hw 156 rfl)) (by decide) (backOf (W := 0) (rm_ok_C l Z a0 hw [] G1 G3 ra_2216 t_2216 kt_2216 7 ([(.int (own_by qa)), (.int (own_by qb)), (.int (own_by na)), (.int (own_by nb)), (.int (own_by nc)), (.int (own_by qa)), (.int (own_by qb))]) (.int 0) 6 2 3 a831 kc831 ([(.int qa), (.int qb)]) (.int 0) a854 kc854 ([(.int na), (.int nb), (.int nc)]) (.int 0) qb 7 T2216.heap h0.size Z2248 (O2) (P5) (O4) (rG3) fq2216_0 fq2216_1 fq2216_2 f2250 f2234 f2235 (by decide) (by decide) (⟨by decide, by decide⟩) (by rfl) (ch_qb) (by decide) (by decide) (by decide) (by rfl) Old2246) hZ (wi hw 156 rfl) (wi hw 3 rfl) (by decide) (by decide)) (g := (mkF m 313 #[.val (.int sp), .val (.int qc), .val (.int mc), .val (.int lb), .val (.int lq), .val (.int 2), .val (.int 3), .val (.ref a831), .val (.ref a854), .val (.ref ra_1797), .val (.ref ra_2151), .val (.ref a2173), .val (.ref ra_2216), .val (.int 7)] [(.ref a854), (.ref a831), (.int 3), (.int 2), (.int 7), (.int 6), (.ref ra_2216)])) rfl (by rw [hml]; rfl) (argsL := [(.ref ra_2216), (.int 6), (.int 7), (.int 2), (.int 3), (.ref a831), (.ref a854)]) (rest := []) (lenOf pd__Ljava_lang_String_IIII_C_C_Z rfl) rfl (by show 2 * 0 + _ ≤ _; exact Nat.le_of_eq rfl) (hb hby at_313) (fun _ _ => ⟨rfl, K2264, (by decide : 13 + 0 ≤ _), (by decide : 66 + 0 ≤ _)⟩)
     dsimp only [Pt.U, Pt.locs, Pt.cells, Pt.slots] at X2266 l2266 y2266 z2266 st2266 hQ2266
     subst l2266 y2266 z2266
     obtain ⟨rfl, NQ2266, K2266⟩ := hQ2266
     have N2267 := Fr.app N2265 NQ2266
     refine Rch.st (fun _ k => st2266 _ k) ?_
     show Rch p e below T2266 (mkF m 316 #[.val (.int sp), .val (.int qc), .val (.int mc), .val (.int lb), .val (.int lq), .val (.int 2), .val (.int 3), .val (.ref a831), .val (.ref a854), .val (.ref ra_1797), .val (.ref ra_2151), .val (.ref a2173), .val (.ref ra_2216), .val (.int 7)] [(.int 1)]) _
     refine w_ifNo (pc' := 319) X2266 hx hby at_316 (XT.i0_eq_f (by decide)) rfl ?_
     refine w_iconst (pc' := 320) (v := 1) X2266 hx hby at_319 rfl rfl ?_
     refine w_goto (pc' := 324) X2266 hx hby at_320 (by decide) ?_
     exact Rch.retVW X2266 hx hS0 (by rw [K2266]; exact hk2249) Bd.returns rfl (Or.inl ⟨rfl, by simp, _, rfl⟩) (hb hby at_324) (by rw [K2266]; exact ⟨rfl, (own_Fr Z0 N2267), Kp2247, own_ib_mono (own_ib (s := s.setVm s.vm) hI X2266.warmed) (by decide)⟩) (by decide) (by decide)
  by_cases c2268 : (sp &&& (2 : Int32)) = 0
  ·skip
   refine w_ifYes (pc' := 22) X0 hx hby at_15 (XT.i0_eq_t (c2268)) (by decide) ?_
   refine w_iconst (pc' := 23) (v := 0) X0 hx hby at_22 rfl rfl ?_
   exact Jlq _ (Or.inl rfl)
  ·skip
   refine w_ifNo (pc' := 18) X0 hx hby at_15 (XT.i0_eq_f (c2268)) rfl ?_
   refine w_iconst (pc' := 19) (v := 1) X0 hx hby at_18 rfl rfl ?_
   refine w_goto (pc' := 23) X0 hx hby at_19 (by decide) ?_
   exact Jlq _ (Or.inr rfl)
 by_cases c2269 : (sp &&& (1 : Int32)) = 0
 ·skip
  refine w_ifYes (pc' := 10) X0 hx hby at_3 (XT.i0_eq_t (c2269)) (by decide) ?_
  refine w_iconst (pc' := 11) (v := 0) X0 hx hby at_10 rfl rfl ?_
  exact Jlb _ (Or.inl rfl)
 ·skip
  refine w_ifNo (pc' := 6) X0 hx hby at_3 (XT.i0_eq_f (c2269)) rfl ?_
  refine w_iconst (pc' := 7) (v := 1) X0 hx hby at_6 rfl rfl ?_
  refine w_goto (pc' := 11) X0 hx hby at_7 (by decide) ?_
  exact Jlb _ (Or.inr rfl)

set_option maxRecDepth 65536 in
set_option maxHeartbeats 40000000 in
theorem comes_1 {Post : Tables → Env → Array Value → State → Outcome → State → Prop} (hpost : ∀ tb e args s v u, (limb_1_1.after args s (.returned v) u = true ∧ limb_1_2.after args s (.returned v) u = true ∧ True) → ReturnedEndW s (.returned v) u (Jvm.fieldLocs frame_1_writes args s ++ Jvm.arrayLocs frame_1_arrays args s ++ Jvm.staticLocs frame_1_statics s) 40 1216 → Post tb e args s (.returned v) u) :
    ArmFor flags0 classFile x code maxLocals ret World_1 tables_1 room_1 Calls_1 rest_1 Pre_1 Post := by
  intro l hfl _ _ p e ha hc hk s m args below hf hA hF happ hP
  obtain ⟨hcalls, hrest, hpre⟩ := hP
  obtain ⟨-, -, -, hnamed, -, -, -, hat⟩ := (Spec.applies_iff hf).mp happ
  obtain ⟨hg, hn⟩ := and_e (Cond.before_iff.mp (show (Jvm.Cond.and given_1 narrow_1).before args s = true from hpre))
  obtain ⟨hcnt, hgs⟩ := and_e hg
  obtain ⟨w0, w1, w2, rfl⟩ : ∃ w0 w1 w2, args = #[w0, w1, w2] := by
    have hs : args.size = 3 := by simpa [Cond.value, given_1] using hcnt
    obtain ⟨L⟩ := args
    match L, hs with
    | [w0, w1, w2], _ => exact ⟨w0, w1, w2, rfl⟩
  have hw := fun d (hd : d ∈ tables_1) => atoms_spec (ws := Jvm.Cond.code x code maxLocals ret :: tables_1) hat d (List.mem_cons_of_mem _ hd)
  obtain ⟨hsets, hown0⟩ := atoms_of _ (rest_1_c_eq ▸ (show rest_1_c.before _ s = true from hrest))
  have hfit : Fit s := fun {y c} hc i hi => by
    obtain ⟨ha, rfl⟩ := Array.getElem?_eq_some_iff.mp hc
    have q := List.all_eq_true.mp ((Array.all_eq_true_iff_forall_mem.mp hF) _ (Array.getElem_mem ha)) i (List.mem_range.mpr hi)
    simpa [Array.getElem?_eq_getElem hi] using q
  obtain ⟨g0, gr0⟩ := and_e hgs
  obtain ⟨i0, q0⟩ := is_v g0
  obtain rfl : w0 = (.int i0) := Option.some.inj q0
  obtain ⟨g1, gr1⟩ := and_e gr0
  obtain ⟨i1, q1⟩ := is_v g1
  obtain rfl : w1 = (.int i1) := Option.some.inj q1
  obtain ⟨i2, q2⟩ := is_v gr1
  obtain rfl : w2 = (.int i2) := Option.some.inj q2
  obtain ⟨G1, eG⟩ := is_v (Cond.before_iff.mp (hsets _ (List.mem_of_getElem? (i := 1) rfl)))
  have O2 := Sta.start eG (Or.inl (hsets _ (List.mem_of_getElem? (i := 0) rfl)))
  have P5 : ¬ (G1 = (0 : Int32)) := gotF (Cond.eq_ints eG (Term.int_eval (0))) (not_v (Cond.before_iff.mp (hsets _ (List.mem_of_getElem? (i := 2) rfl))))
  obtain ⟨G3, eG3, rG3⟩ := isR_v (Cond.before_iff.mp (hsets _ (List.mem_of_getElem? (i := 8) rfl)))
  have O4 := Sta.start eG3 (Or.inl (hsets _ (List.mem_of_getElem? (i := 7) rfl)))
  have H32 := hcalls.1 ("com/example/alcance/alcance/IdentifiersQuotedPinLaw", 32) (List.mem_of_getElem? (i := 0) rfl)
  obtain ⟨n, o, h1, h2, h3, _, L, rfl, ⟨rfl, N, -⟩, hq⟩ := rm_law l s _ hw tables_1 G1 G3 i0 i1 i2 s.heap s.heap.size (Nat.le_refl _) O2 P5 O4 rG3 H32 (hsets _ (List.mem_of_getElem? (i := 2) rfl)) (OldL.start s) p e ha hc hk s m _ below hf ((Spec.applies_iff_loose hf).mp happ).1 ⟨rfl, State.Warmed39.refl s, rfl, IB.start⟩ trivial
  refine ⟨n, _, h1, h2, h3, hpost _ _ _ _ _ _ ⟨Cond.after_iff.mpr rfl, Cond.after_iff.mpr (eq_i res_at (Term.int_eval (1)) rfl), trivial⟩ ⟨hq.1, hq.2.1, hq.2.2.1, (hq.2.2.2.sift fun y hy => Or.inr (N y hy)).mono (by decide) (by decide)⟩⟩
theorem main_1_1 : Claimed_1_1 := comes_1 fun _ _ _ _ _ _ h hF => ⟨h.1, hF⟩
theorem main_1_2 : Claimed_1_2 := comes_1 fun _ _ _ _ _ _ h hF => ⟨h.2.1, hF⟩
end Jvm.Pilot.@@N@@
namespace Jvm.Pilot.@@N@@
open Jvm Jvm.ClassFile Sem Op Lib Jvm.Free Jvm.Stand Jvm.Pilot.@@N@@.Jvm.D
/-! MADE BY PROGRAM (witnessworld.py) out of the Statement's table words and the real class files: 27 classes; the members and pool entries that the words name. The judged class is class 1, her method 1. -/
namespace start1
open Jvm.ClassFile
def u (s : String) : CpInfo := .utf8 (stringToUtf16 s)
/-- a pool by its gaps: so many unusable entries, then the entry; so many at the end -/
def gap : Nat → List CpInfo → List CpInfo
  | 0, r => r
  | n + 1, r => .unusable :: gap n r
def poolList (es : List (Nat × CpInfo)) (last : Nat) : List CpInfo := es.foldr (fun e r => gap e.1 (e.2 :: r)) (gap last [])
def pool (es : List (Nat × CpInfo)) (last : Nat) : Array CpInfo := ⟨poolList es last⟩
def fileOf (pool : Array CpInfo) (this : Nat) (attrs : Array Attribute := #[]) (ms : Array MethodInfo := #[]) (fl : Nat := 33) (sup : Nat := 0) (ifs : Array Nat := #[]) (fds : Array FieldInfo := #[]) : ClassFile where
  minorVersion := 0
  majorVersion := 65
  constantPool := pool
  accessFlags := fl
  thisClass := this
  superClass := sup
  interfaces := ifs
  fields := fds
  methods := ms
  attributes := attrs
def plain (name : String) (sup : Option ClassId) : Class where
  name := name
  kind := .ordinary
  loader := none
  accessFlags := 33
  super := sup
  interfaces := #[]
  cf := none
  fields := #[]
  methods := #[]
  instanceTypes := #[]
  staticTypes := #[]
  resolved := #[]
  callSites := []
  init := .initialized
  statics := none
  mirror := none

def pool0 : Array CpInfo := pool [(5, u "<init>"), (0, u "()V"), (1, .class_ 10), (1, u "java/lang/Object")] 113

def k0c0 : Code := { maxStack := 0, maxLocals := 1, code := object_method_1_code, exceptionTable := #[], attributes := #[] }
def k0m0 : Method := { name := "<init>", desc := "()V", sig := { parameters := [], returnType := none }, accessFlags := 1, code := some k0c0 }
/-- java/lang/Object -/
def k0 : Class := { plain "java/lang/Object" none with
  accessFlags := 33
  interfaces := #[]
  cf := some (fileOf pool0 8 #[] #[{ accessFlags := 1, nameIndex := 5, descriptorIndex := 6, attributes := #[] }] 33 0 #[] #[])
  fields := #[]
  methods := #[k0m0]
  instanceTypes := #[]
  staticTypes := #[]
  resolved := Array.replicate 124 none
  statics := none }

def pool1 : Array CpInfo := pool [(2, .class_ 4), (1, u "java/lang/Object"), (0, u "<init>"), (0, u "()V"), (0, .methodref 8 9), (0, .class_ 10), (0, .nameAndType 11 12), (0, u "com/example/alcance/alcance/IdentifiersQuotedPinLaw"), (0, u "make"), (0, u "(I[C[CZ)Ljava/lang/String;"), (0, .class_ 14), (0, u "com/example/alcance/alcance/Identifiers"), (0, .methodref 13 16), (0, .nameAndType 5 17), (0, u "(ZZLjava/lang/String;)V"), (0, .methodref 13 19), (0, .nameAndType 20 21), (0, u "quoted"), (0, u "(Ljava/lang/String;)Ljava/lang/String;"), (0, .methodref 23 24), (0, .class_ 25), (0, .nameAndType 26 27), (0, u "java/lang/String"), (0, u "length"), (0, u "()I"), (0, .methodref 8 29), (0, .nameAndType 30 31), (0, u "ok"), (0, u "(Ljava/lang/String;IIII[C[C)Z"), (0, .string 33), (0, u ""), (0, .methodref 23 35), (0, .nameAndType 36 37), (0, u "valueOf"), (0, u "(C)Ljava/lang/String;"), (0, .methodref 23 39), (0, .nameAndType 5 40), (0, u "([C)V"), (0, .methodref 23 42), (0, .nameAndType 43 44), (0, u "charAt"), (0, u "(I)C"), (0, .methodref 8 46), (0, .nameAndType 47 48), (0, u "expectedAt"), (0, u "(III[C[C)C"), (2, u "law"), (0, u "(III)Z")] 5

def k1m0 : Method := { name := "<init>", desc := "()V", sig := { parameters := [], returnType := none }, accessFlags := 1, code := none }
def k1c1 : Code := { maxStack := 7, maxLocals := 14, code := code, exceptionTable := #[], attributes := #[] }
def k1m1 : Method := { name := "law", desc := "(III)Z", sig := { parameters := [.int, .int, .int], returnType := some .boolean }, accessFlags := 9, code := some k1c1 }
def k1c2 : Code := { maxStack := 4, maxLocals := 6, code := method_3_code, exceptionTable := #[], attributes := #[] }
def k1m2 : Method := { name := "make", desc := "(I[C[CZ)Ljava/lang/String;", sig := { parameters := [.int, (.array .char), (.array .char), .boolean], returnType := some (.object "java/lang/String") }, accessFlags := 10, code := some k1c2 }
def k1c3 : Code := { maxStack := 2, maxLocals := 7, code := method_4_code, exceptionTable := #[], attributes := #[] }
def k1m3 : Method := { name := "expectedAt", desc := "(III[C[C)C", sig := { parameters := [.int, .int, .int, (.array .char), (.array .char)], returnType := some .char }, accessFlags := 10, code := some k1c3 }
def k1c4 : Code := { maxStack := 6, maxLocals := 7, code := method_5_code, exceptionTable := #[], attributes := #[] }
def k1m4 : Method := { name := "ok", desc := "(Ljava/lang/String;IIII[C[C)Z", sig := { parameters := [(.object "java/lang/String"), .int, .int, .int, .int, (.array .char), (.array .char)], returnType := some .boolean }, accessFlags := 10, code := some k1c4 }
/-- com/example/alcance/alcance/IdentifiersQuotedPinLaw -/
def k1 : Class := { plain "com/example/alcance/alcance/IdentifiersQuotedPinLaw" (some 0) with
  accessFlags := 49
  interfaces := #[]
  cf := some (fileOf pool1 8 #[] #[{ accessFlags := 1, nameIndex := 5, descriptorIndex := 6, attributes := #[] }, { accessFlags := 9, nameIndex := 51, descriptorIndex := 52, attributes := #[] }, { accessFlags := 10, nameIndex := 11, descriptorIndex := 12, attributes := #[] }, { accessFlags := 10, nameIndex := 47, descriptorIndex := 48, attributes := #[] }, { accessFlags := 10, nameIndex := 30, descriptorIndex := 31, attributes := #[] }] 49 2 #[] #[])
  fields := #[]
  methods := #[k1m0, k1m1, k1m2, k1m3, k1m4]
  instanceTypes := #[]
  staticTypes := #[]
  resolved := Array.replicate 58 none
  statics := none }

def pool2 : Array CpInfo := pool [(1, .class_ 2), (0, u "java/io/Serializable"), (0, .class_ 4), (0, u "java/lang/Object")] 2

/-- java/io/Serializable -/
def k2 : Class := { plain "java/io/Serializable" (some 0) with
  accessFlags := 1537
  interfaces := #[]
  cf := some (fileOf pool2 1 #[] #[] 1537 3 #[] #[])
  fields := #[]
  methods := #[]
  instanceTypes := #[]
  staticTypes := #[]
  resolved := Array.replicate 7 none
  statics := none }

def pool3 : Array CpInfo := pool [(1, .class_ 2), (0, u "java/lang/Comparable"), (0, .class_ 4), (0, u "java/lang/Object")] 7

/-- java/lang/Comparable -/
def k3 : Class := { plain "java/lang/Comparable" (some 0) with
  accessFlags := 1537
  interfaces := #[]
  cf := some (fileOf pool3 1 #[] #[] 1537 3 #[] #[])
  fields := #[]
  methods := #[]
  instanceTypes := #[]
  staticTypes := #[]
  resolved := Array.replicate 12 none
  statics := none }

def pool4 : Array CpInfo := pool [(2, .class_ 4), (1, u "java/lang/CharSequence"), (42, .class_ 48), (0, u "java/lang/CharSequence$1CodePointIterator"), (10, .class_ 60), (0, u "java/lang/CharSequence$1CharIterator"), (5, .class_ 67), (0, u "java/lang/Object")] 63

/-- java/lang/CharSequence -/
def k4 : Class := { plain "java/lang/CharSequence" (some 0) with
  accessFlags := 1537
  interfaces := #[]
  cf := some (fileOf pool4 2 #[.nestMembers #[47, 59]] #[] 1537 66 #[] #[])
  fields := #[]
  methods := #[]
  instanceTypes := #[]
  staticTypes := #[]
  resolved := Array.replicate 131 none
  statics := none }

def pool5 : Array CpInfo := pool [(1, .class_ 2), (0, u "java/lang/constant/Constable"), (0, .class_ 4), (0, u "java/lang/Object")] 6

/-- java/lang/constant/Constable -/
def k5 : Class := { plain "java/lang/constant/Constable" (some 0) with
  accessFlags := 1537
  interfaces := #[]
  cf := some (fileOf pool5 1 #[] #[] 1537 3 #[] #[])
  fields := #[]
  methods := #[]
  instanceTypes := #[]
  staticTypes := #[]
  resolved := Array.replicate 11 none
  statics := none }

def pool6 : Array CpInfo := pool [(1, .class_ 2), (0, u "java/lang/constant/ConstantDesc"), (0, .class_ 4), (0, u "java/lang/Object")] 32

/-- java/lang/constant/ConstantDesc -/
def k6 : Class := { plain "java/lang/constant/ConstantDesc" (some 0) with
  accessFlags := 1537
  interfaces := #[]
  cf := some (fileOf pool6 1 #[] #[] 1537 3 #[] #[])
  fields := #[]
  methods := #[]
  instanceTypes := #[]
  staticTypes := #[]
  resolved := Array.replicate 37 none
  statics := none }

def pool7 : Array CpInfo := pool [(1, .methodref 2 3), (0, .class_ 4), (0, .nameAndType 5 6), (0, u "java/lang/Object"), (0, u "<init>"), (0, u "()V"), (2, .fieldref 10 11), (0, .class_ 12), (0, .nameAndType 13 14), (0, u "java/lang/String"), (0, u "value"), (0, u "[B"), (0, .fieldref 10 16), (0, .nameAndType 17 18), (0, u "coder"), (0, u "B"), (2, u "hash"), (0, u "I"), (2, u "hashIsZero"), (0, u "Z"), (0, .methodref 10 28), (0, .nameAndType 5 29), (0, u "([CIILjava/lang/Void;)V"), (8, .fieldref 10 39), (0, .nameAndType 40 26), (0, u "COMPACT_STRINGS"), (1, .class_ 44), (1, u "java/lang/StringUTF16"), (0, u "compress"), (1, .methodref 42 48), (0, .nameAndType 49 50), (0, u "coderFromArrayLen"), (0, u "([BI)B"), (2, u "toBytes"), (0, .methodref 55 56), (0, .class_ 57), (0, .nameAndType 58 59), (0, u "java/util/Arrays"), (0, u "copyOfRange"), (0, u "([BII)[B"), (47, .class_ 109), (1, u "java/lang/StringLatin1"), (32, u "()Z"), (34, .methodref 42 178), (0, .nameAndType 45 179), (0, u "([CII)[B"), (13, .class_ 195), (1, u "java/lang/System"), (13, .methodref 10 210), (0, .nameAndType 5 211), (0, u "([BB)V"), (0, .methodref 193 213), (0, .nameAndType 214 215), (0, u "arraycopy"), (0, u "(Ljava/lang/Object;ILjava/lang/Object;II)V"), (118, u "()I"), (0, .methodref 10 336), (0, .nameAndType 17 337), (0, u "()B"), (2, u "()[B"), (22, u "([BI)C"), (5, u "(C)Z"), (21, u "(II)V"), (35, u "(I)C"), (61, .methodref 10 490), (0, .nameAndType 5 491), (0, u "(Ljava/lang/AbstractStringBuilder;Ljava/lang/Void;)V"), (0, .methodref 10 493), (0, .nameAndType 494 142), (0, u "isLatin1"), (0, .methodref 107 496), (0, .nameAndType 497 363), (0, u "charAt"), (3, u "checkIndex"), (4, .nameAndType 507 334), (0, u "length"), (24, u "getBytes"), (16, .methodref 550 506), (0, .class_ 551), (0, u "java/lang/AbstractStringBuilder"), (0, .methodref 550 553), (0, .nameAndType 554 340), (0, u "getValue"), (20, .class_ 576), (0, u "java/lang/CharSequence"), (22, u "CASE_INSENSITIVE_ORDER"), (0, u "Ljava/util/Comparator;"), (181, u "valueOf"), (0, u "(C)Ljava/lang/String;"), (37, u "([BIB)V"), (188, u "([C)V"), (4, .methodref 107 1016), (0, .nameAndType 1017 369), (0, u "canEncode"), (0, .methodref 107 1019), (0, .nameAndType 53 1020), (0, u "(C)[B"), (26, .methodref 550 493), (5, .fieldref 1054 1055), (0, .class_ 1056), (0, .nameAndType 1057 1058), (0, u "jdk/internal/util/Preconditions"), (0, u "SIOOBE_FORMATTER"), (0, u "Ljava/util/function/BiFunction;"), (0, .methodref 1054 1060), (0, .nameAndType 501 1061), (0, u "(IILjava/util/function/BiFunction;)I"), (39, u "serialPersistentFields"), (0, u "[Ljava/io/ObjectStreamField;"), (0, .class_ 1104), (0, u "java/lang/String$CaseInsensitiveComparator"), (1, .class_ 1107), (0, u "java/io/Serializable"), (0, .class_ 1109), (0, u "java/lang/Comparable"), (0, .class_ 1111), (0, u "java/lang/constant/Constable"), (0, .class_ 1113), (0, u "java/lang/constant/ConstantDesc"), (2, u "serialVersionUID"), (0, u "J"), (3, u "REPL"), (0, u "C"), (2, u "LATIN1"), (1, u "UTF16"), (105, u "(Ljava/lang/StringBuilder;)V")] 217

def k7m0 : Method := { name := "<init>", desc := "()V", sig := { parameters := [], returnType := none }, accessFlags := 1, code := none }
def k7c1 : Code := { maxStack := 5, maxLocals := 2, code := jdk_42_method_3_code, exceptionTable := #[], attributes := #[] }
def k7m1 : Method := { name := "<init>", desc := "([C)V", sig := { parameters := [(.array .char)], returnType := none }, accessFlags := 1, code := some k7c1 }
def k7c2 : Code := { maxStack := 3, maxLocals := 2, code := jdk_42_method_53_code, exceptionTable := #[], attributes := #[] }
def k7m2 : Method := { name := "<init>", desc := "(Ljava/lang/StringBuilder;)V", sig := { parameters := [(.object "java/lang/StringBuilder")], returnType := none }, accessFlags := 1, code := some k7c2 }
def k7c3 : Code := { maxStack := 2, maxLocals := 1, code := jdk_42_method_54_code, exceptionTable := #[], attributes := #[] }
def k7m3 : Method := { name := "length", desc := "()I", sig := { parameters := [], returnType := some .int }, accessFlags := 1, code := some k7c3 }
def k7c4 : Code := { maxStack := 2, maxLocals := 2, code := jdk_42_method_56_code, exceptionTable := #[], attributes := #[] }
def k7m4 : Method := { name := "charAt", desc := "(I)C", sig := { parameters := [.int], returnType := some .char }, accessFlags := 1, code := some k7c4 }
def k7c5 : Code := { maxStack := 4, maxLocals := 1, code := jdk_42_method_139_code, exceptionTable := #[], attributes := #[] }
def k7m5 : Method := { name := "valueOf", desc := "(C)Ljava/lang/String;", sig := { parameters := [.char], returnType := some (.object "java/lang/String") }, accessFlags := 9, code := some k7c5 }
def k7c6 : Code := { maxStack := 5, maxLocals := 4, code := jdk_42_method_147_code, exceptionTable := #[], attributes := #[] }
def k7m6 : Method := { name := "getBytes", desc := "([BIB)V", sig := { parameters := [(.array .byte), .int, .byte], returnType := none }, accessFlags := 0, code := some k7c6 }
def k7c7 : Code := { maxStack := 4, maxLocals := 6, code := jdk_42_method_149_code, exceptionTable := #[], attributes := #[] }
def k7m7 : Method := { name := "<init>", desc := "([CIILjava/lang/Void;)V", sig := { parameters := [(.array .char), .int, .int, (.object "java/lang/Void")], returnType := none }, accessFlags := 2, code := some k7c7 }
def k7c8 : Code := { maxStack := 5, maxLocals := 5, code := jdk_42_method_150_code, exceptionTable := #[], attributes := #[] }
def k7m8 : Method := { name := "<init>", desc := "(Ljava/lang/AbstractStringBuilder;Ljava/lang/Void;)V", sig := { parameters := [(.object "java/lang/AbstractStringBuilder"), (.object "java/lang/Void")], returnType := none }, accessFlags := 0, code := some k7c8 }
def k7c9 : Code := { maxStack := 2, maxLocals := 3, code := jdk_42_method_151_code, exceptionTable := #[], attributes := #[] }
def k7m9 : Method := { name := "<init>", desc := "([BB)V", sig := { parameters := [(.array .byte), .byte], returnType := none }, accessFlags := 0, code := some k7c9 }
def k7c10 : Code := { maxStack := 1, maxLocals := 1, code := jdk_42_method_152_code, exceptionTable := #[], attributes := #[] }
def k7m10 : Method := { name := "coder", desc := "()B", sig := { parameters := [], returnType := some .byte }, accessFlags := 0, code := some k7c10 }
def k7c11 : Code := { maxStack := 1, maxLocals := 1, code := jdk_42_method_154_code, exceptionTable := #[], attributes := #[] }
def k7m11 : Method := { name := "isLatin1", desc := "()Z", sig := { parameters := [], returnType := some .boolean }, accessFlags := 0, code := some k7c11 }
def k7c12 : Code := { maxStack := 3, maxLocals := 2, code := jdk_42_method_155_code, exceptionTable := #[], attributes := #[] }
def k7m12 : Method := { name := "checkIndex", desc := "(II)V", sig := { parameters := [.int, .int], returnType := none }, accessFlags := 8, code := some k7c12 }
/-- java/lang/String -/
def k7 : Class := { plain "java/lang/String" (some 0) with
  accessFlags := 49
  interfaces := #[2, 3, 4, 5, 6]
  cf := some (fileOf pool7 10 #[.nestMembers #[1103]] #[{ accessFlags := 1, nameIndex := 5, descriptorIndex := 6, attributes := #[] }, { accessFlags := 1, nameIndex := 5, descriptorIndex := 1010, attributes := #[] }, { accessFlags := 1, nameIndex := 5, descriptorIndex := 1233, attributes := #[] }, { accessFlags := 1, nameIndex := 507, descriptorIndex := 334, attributes := #[] }, { accessFlags := 1, nameIndex := 497, descriptorIndex := 427, attributes := #[] }, { accessFlags := 9, nameIndex := 782, descriptorIndex := 783, attributes := #[] }, { accessFlags := 0, nameIndex := 532, descriptorIndex := 821, attributes := #[] }, { accessFlags := 2, nameIndex := 5, descriptorIndex := 29, attributes := #[] }, { accessFlags := 0, nameIndex := 5, descriptorIndex := 491, attributes := #[] }, { accessFlags := 0, nameIndex := 5, descriptorIndex := 211, attributes := #[] }, { accessFlags := 0, nameIndex := 17, descriptorIndex := 337, attributes := #[] }, { accessFlags := 0, nameIndex := 494, descriptorIndex := 142, attributes := #[] }, { accessFlags := 8, nameIndex := 501, descriptorIndex := 391, attributes := #[] }] 49 2 #[1106, 1108, 575, 1110, 1112] #[{ accessFlags := 18, nameIndex := 13, descriptorIndex := 14, attributes := #[] }, { accessFlags := 18, nameIndex := 17, descriptorIndex := 18, attributes := #[] }, { accessFlags := 2, nameIndex := 21, descriptorIndex := 22, attributes := #[] }, { accessFlags := 2, nameIndex := 25, descriptorIndex := 26, attributes := #[] }, { accessFlags := 26, nameIndex := 1116, descriptorIndex := 1117, attributes := #[] }, { accessFlags := 24, nameIndex := 40, descriptorIndex := 26, attributes := #[] }, { accessFlags := 26, nameIndex := 1101, descriptorIndex := 1102, attributes := #[] }, { accessFlags := 26, nameIndex := 1121, descriptorIndex := 1122, attributes := #[] }, { accessFlags := 25, nameIndex := 599, descriptorIndex := 600, attributes := #[] }, { accessFlags := 24, nameIndex := 1125, descriptorIndex := 18, attributes := #[] }, { accessFlags := 24, nameIndex := 1127, descriptorIndex := 18, attributes := #[] }])
  fields := #[{ name := "value", type := (.array .byte), accessFlags := 18, slot := 0, constantValue := 0 }, { name := "coder", type := .byte, accessFlags := 18, slot := 1, constantValue := 0 }, { name := "hash", type := .int, accessFlags := 2, slot := 2, constantValue := 0 }, { name := "hashIsZero", type := .boolean, accessFlags := 2, slot := 3, constantValue := 0 }, { name := "serialVersionUID", type := .long, accessFlags := 26, slot := 0, constantValue := 0 }, { name := "COMPACT_STRINGS", type := .boolean, accessFlags := 24, slot := 1, constantValue := 0 }, { name := "serialPersistentFields", type := (.array (.object "java/io/ObjectStreamField")), accessFlags := 26, slot := 2, constantValue := 0 }, { name := "REPL", type := .char, accessFlags := 26, slot := 3, constantValue := 0 }, { name := "CASE_INSENSITIVE_ORDER", type := (.object "java/util/Comparator"), accessFlags := 25, slot := 4, constantValue := 0 }, { name := "LATIN1", type := .byte, accessFlags := 24, slot := 5, constantValue := 0 }, { name := "UTF16", type := .byte, accessFlags := 24, slot := 6, constantValue := 0 }]
  methods := #[k7m0, k7m1, k7m2, k7m3, k7m4, k7m5, k7m6, k7m7, k7m8, k7m9, k7m10, k7m11, k7m12]
  instanceTypes := #[(.array .byte), .byte, .int, .boolean]
  staticTypes := #[.long, .boolean, (.array (.object "java/io/ObjectStreamField")), .char, (.object "java/util/Comparator"), .byte, .byte]
  resolved := Array.replicate 1451 none
  statics := some 0 }

def pool8 : Array CpInfo := pool [(1, .methodref 2 3), (0, .class_ 4), (0, .nameAndType 5 6), (0, u "java/lang/Object"), (0, u "<init>"), (0, u "()V"), (0, .class_ 8), (0, u "java/lang/Record")] 13

def k8c0 : Code := { maxStack := 1, maxLocals := 1, code := jdk_30_method_1_code, exceptionTable := #[], attributes := #[] }
def k8m0 : Method := { name := "<init>", desc := "()V", sig := { parameters := [], returnType := none }, accessFlags := 4, code := some k8c0 }
/-- java/lang/Record -/
def k8 : Class := { plain "java/lang/Record" (some 0) with
  accessFlags := 1057
  interfaces := #[]
  cf := some (fileOf pool8 7 #[] #[{ accessFlags := 4, nameIndex := 5, descriptorIndex := 6, attributes := #[] }] 1057 2 #[] #[])
  fields := #[]
  methods := #[k8m0]
  instanceTypes := #[]
  staticTypes := #[]
  resolved := Array.replicate 22 none
  statics := none }

def pool9 : Array CpInfo := pool [(1, .methodref 2 3), (0, .class_ 4), (0, .nameAndType 5 6), (0, u "java/lang/Record"), (0, u "<init>"), (0, u "()V"), (0, .fieldref 8 9), (0, .class_ 10), (0, .nameAndType 11 12), (0, u "com/example/alcance/alcance/Identifiers"), (0, u "lowersBare"), (0, u "Z"), (0, .fieldref 8 14), (0, .nameAndType 15 12), (0, u "lowersQuoted"), (0, .fieldref 8 17), (0, .nameAndType 18 19), (0, u "quote"), (0, u "Ljava/lang/String;"), (12, u "()Ljava/lang/String;"), (2, u "(ZZLjava/lang/String;)V"), (17, u "(Ljava/lang/String;)Ljava/lang/String;"), (7, .class_ 62), (0, u "java/lang/StringBuilder"), (0, .methodref 61 3), (0, .methodref 61 65), (0, .nameAndType 66 67), (0, u "append"), (0, u "(Ljava/lang/String;)Ljava/lang/StringBuilder;"), (0, .methodref 61 69), (0, .nameAndType 70 32), (0, u "toString"), (31, u "quoted")] 25

def k9c0 : Code := { maxStack := 2, maxLocals := 4, code := prog_3_method_1_code, exceptionTable := #[], attributes := #[] }
def k9m0 : Method := { name := "<init>", desc := "(ZZLjava/lang/String;)V", sig := { parameters := [.boolean, .boolean, (.object "java/lang/String")], returnType := none }, accessFlags := 0, code := some k9c0 }
def k9c1 : Code := { maxStack := 2, maxLocals := 2, code := prog_3_method_5_code, exceptionTable := #[], attributes := #[] }
def k9m1 : Method := { name := "quoted", desc := "(Ljava/lang/String;)Ljava/lang/String;", sig := { parameters := [(.object "java/lang/String")], returnType := some (.object "java/lang/String") }, accessFlags := 0, code := some k9c1 }
/-- com/example/alcance/alcance/Identifiers -/
def k9 : Class := { plain "com/example/alcance/alcance/Identifiers" (some 8) with
  accessFlags := 48
  interfaces := #[]
  cf := some (fileOf pool9 8 #[] #[{ accessFlags := 0, nameIndex := 5, descriptorIndex := 35, attributes := #[] }, { accessFlags := 0, nameIndex := 102, descriptorIndex := 53, attributes := #[] }] 48 2 #[] #[{ accessFlags := 18, nameIndex := 11, descriptorIndex := 12, attributes := #[] }, { accessFlags := 18, nameIndex := 15, descriptorIndex := 12, attributes := #[] }, { accessFlags := 18, nameIndex := 18, descriptorIndex := 19, attributes := #[] }])
  fields := #[{ name := "lowersBare", type := .boolean, accessFlags := 18, slot := 0, constantValue := 0 }, { name := "lowersQuoted", type := .boolean, accessFlags := 18, slot := 1, constantValue := 0 }, { name := "quote", type := (.object "java/lang/String"), accessFlags := 18, slot := 2, constantValue := 0 }]
  methods := #[k9m0, k9m1]
  instanceTypes := #[.boolean, .boolean, (.object "java/lang/String")]
  staticTypes := #[]
  resolved := Array.replicate 128 none
  statics := none }

def pool10 : Array CpInfo := pool [(1, .class_ 2), (0, u "java/lang/Appendable"), (0, .class_ 4), (0, u "java/lang/Object")] 9

/-- java/lang/Appendable -/
def k10 : Class := { plain "java/lang/Appendable" (some 0) with
  accessFlags := 1537
  interfaces := #[]
  cf := some (fileOf pool10 1 #[] #[] 1537 3 #[] #[])
  fields := #[]
  methods := #[]
  instanceTypes := #[]
  staticTypes := #[]
  resolved := Array.replicate 14 none
  statics := none }

def pool11 : Array CpInfo := pool [(1, .class_ 2), (0, u "java/lang/String"), (0, .methodref 4 5), (0, .class_ 6), (0, .nameAndType 7 8), (0, u "java/lang/Object"), (0, u "<init>"), (0, u "()V"), (1, .class_ 12), (1, u "java/lang/AbstractStringBuilder"), (0, u "EMPTYVALUE"), (0, u "[B"), (0, .fieldref 10 16), (0, .nameAndType 17 14), (0, u "value"), (0, .fieldref 1 19), (0, .nameAndType 20 21), (0, u "COMPACT_STRINGS"), (0, u "Z"), (0, .fieldref 10 23), (0, .nameAndType 24 25), (0, u "coder"), (0, u "B"), (6, .methodref 1 33), (0, .nameAndType 34 35), (0, u "length"), (0, u "()I"), (4, .methodref 1 41), (0, .nameAndType 24 42), (0, u "()B"), (2, u "append"), (0, u "(Ljava/lang/String;)Ljava/lang/AbstractStringBuilder;"), (1, .class_ 49), (0, u "java/lang/CharSequence"), (19, u "(Ljava/lang/String;)V"), (5, u "maybeLatin1"), (3, .fieldref 10 80), (0, .nameAndType 81 82), (0, u "count"), (0, u "I"), (2, u "isLatin1"), (0, u "()Z"), (13, .methodref 10 101), (0, .nameAndType 102 103), (0, u "ensureCapacityInternal"), (0, u "(I)V"), (104, .methodref 10 209), (0, .nameAndType 210 211), (0, u "putStringAt"), (0, u "(ILjava/lang/String;)V"), (5, u "inflateIfNeededFor"), (2, .nameAndType 221 222), (0, u "getBytes"), (0, u "([BIB)V"), (174, .methodref 10 398), (0, .nameAndType 217 69), (0, .methodref 1 220), (3, u "()[B"), (40, .class_ 445), (0, u "java/lang/Appendable"), (106, u "getValue")] 56

def k11m0 : Method := { name := "<init>", desc := "()V", sig := { parameters := [], returnType := none }, accessFlags := 0, code := none }
def k11c1 : Code := { maxStack := 2, maxLocals := 2, code := jdk_68_method_2_code, exceptionTable := #[], attributes := #[] }
def k11m1 : Method := { name := "<init>", desc := "(I)V", sig := { parameters := [.int], returnType := none }, accessFlags := 0, code := some k11c1 }
def k11c2 : Code := { maxStack := 1, maxLocals := 1, code := jdk_68_method_6_code, exceptionTable := #[], attributes := #[] }
def k11m2 : Method := { name := "length", desc := "()I", sig := { parameters := [], returnType := some .int }, accessFlags := 1, code := some k11c2 }
def k11c3 : Code := { maxStack := 4, maxLocals := 3, code := jdk_68_method_9_code, exceptionTable := #[], attributes := #[] }
def k11m3 : Method := { name := "ensureCapacityInternal", desc := "(I)V", sig := { parameters := [.int], returnType := none }, accessFlags := 2, code := some k11c3 }
def k11c4 : Code := { maxStack := 3, maxLocals := 3, code := jdk_68_method_22_code, exceptionTable := #[], attributes := #[] }
def k11m4 : Method := { name := "append", desc := "(Ljava/lang/String;)Ljava/lang/AbstractStringBuilder;", sig := { parameters := [(.object "java/lang/String")], returnType := some (.object "java/lang/AbstractStringBuilder") }, accessFlags := 1, code := some k11c4 }
def k11c5 : Code := { maxStack := 1, maxLocals := 1, code := jdk_68_method_64_code, exceptionTable := #[], attributes := #[] }
def k11m5 : Method := { name := "getValue", desc := "()[B", sig := { parameters := [], returnType := some (.array .byte) }, accessFlags := 16, code := some k11c5 }
def k11c6 : Code := { maxStack := 1, maxLocals := 1, code := jdk_68_method_68_code, exceptionTable := #[], attributes := #[] }
def k11m6 : Method := { name := "isLatin1", desc := "()Z", sig := { parameters := [], returnType := some .boolean }, accessFlags := 16, code := some k11c6 }
def k11c7 : Code := { maxStack := 2, maxLocals := 2, code := jdk_68_method_71_code, exceptionTable := #[], attributes := #[] }
def k11m7 : Method := { name := "inflateIfNeededFor", desc := "(Ljava/lang/String;)V", sig := { parameters := [(.object "java/lang/String")], returnType := none }, accessFlags := 2, code := some k11c7 }
def k11c8 : Code := { maxStack := 4, maxLocals := 3, code := jdk_68_method_73_code, exceptionTable := #[], attributes := #[] }
def k11m8 : Method := { name := "putStringAt", desc := "(ILjava/lang/String;)V", sig := { parameters := [.int, (.object "java/lang/String")], returnType := none }, accessFlags := 2, code := some k11c8 }
/-- java/lang/AbstractStringBuilder -/
def k11 : Class := { plain "java/lang/AbstractStringBuilder" (some 0) with
  accessFlags := 1056
  interfaces := #[10, 4]
  cf := some (fileOf pool11 10 #[] #[{ accessFlags := 0, nameIndex := 7, descriptorIndex := 8, attributes := #[] }, { accessFlags := 0, nameIndex := 7, descriptorIndex := 103, attributes := #[] }, { accessFlags := 1, nameIndex := 34, descriptorIndex := 35, attributes := #[] }, { accessFlags := 2, nameIndex := 102, descriptorIndex := 103, attributes := #[] }, { accessFlags := 1, nameIndex := 45, descriptorIndex := 46, attributes := #[] }, { accessFlags := 16, nameIndex := 552, descriptorIndex := 403, attributes := #[] }, { accessFlags := 16, nameIndex := 85, descriptorIndex := 86, attributes := #[] }, { accessFlags := 2, nameIndex := 217, descriptorIndex := 69, attributes := #[] }, { accessFlags := 2, nameIndex := 210, descriptorIndex := 211, attributes := #[] }] 1056 4 #[444, 48] #[{ accessFlags := 0, nameIndex := 17, descriptorIndex := 14, attributes := #[] }, { accessFlags := 0, nameIndex := 24, descriptorIndex := 25, attributes := #[] }, { accessFlags := 0, nameIndex := 75, descriptorIndex := 21, attributes := #[] }, { accessFlags := 0, nameIndex := 81, descriptorIndex := 82, attributes := #[] }, { accessFlags := 26, nameIndex := 13, descriptorIndex := 14, attributes := #[] }])
  fields := #[{ name := "value", type := (.array .byte), accessFlags := 0, slot := 0, constantValue := 0 }, { name := "coder", type := .byte, accessFlags := 0, slot := 1, constantValue := 0 }, { name := "maybeLatin1", type := .boolean, accessFlags := 0, slot := 2, constantValue := 0 }, { name := "count", type := .int, accessFlags := 0, slot := 3, constantValue := 0 }, { name := "EMPTYVALUE", type := (.array .byte), accessFlags := 26, slot := 0, constantValue := 0 }]
  methods := #[k11m0, k11m1, k11m2, k11m3, k11m4, k11m5, k11m6, k11m7, k11m8]
  instanceTypes := #[(.array .byte), .byte, .boolean, .int]
  staticTypes := #[(.array .byte)]
  resolved := Array.replicate 609 none
  statics := none }

def pool12 : Array CpInfo := pool [(1, .methodref 2 3), (0, .class_ 4), (0, .nameAndType 5 6), (0, u "java/lang/AbstractStringBuilder"), (0, u "<init>"), (0, u "(I)V"), (11, .class_ 20), (1, u "java/lang/String"), (3, .class_ 26), (1, u "java/lang/StringBuilder"), (0, u "append"), (0, u "(Ljava/lang/String;)Ljava/lang/StringBuilder;"), (0, .methodref 2 30), (0, .nameAndType 27 31), (0, u "(Ljava/lang/String;)Ljava/lang/AbstractStringBuilder;"), (105, .methodref 18 138), (0, .nameAndType 5 139), (0, u "(Ljava/lang/StringBuilder;)V"), (5, u "()V"), (10, u "()I"), (186, .methodref 2 344), (0, .nameAndType 345 156), (0, u "length"), (3, .class_ 350), (0, u "java/lang/Appendable"), (0, .class_ 352), (0, u "java/io/Serializable"), (0, .class_ 354), (0, u "java/lang/Comparable"), (0, .class_ 356), (0, u "java/lang/CharSequence"), (0, u "serialVersionUID"), (0, u "J"), (40, u "toString"), (0, u "()Ljava/lang/String;")] 21

def k12c0 : Code := { maxStack := 2, maxLocals := 1, code := jdk_67_method_1_code, exceptionTable := #[], attributes := #[] }
def k12m0 : Method := { name := "<init>", desc := "()V", sig := { parameters := [], returnType := none }, accessFlags := 1, code := some k12c0 }
def k12c1 : Code := { maxStack := 2, maxLocals := 2, code := jdk_67_method_7_code, exceptionTable := #[], attributes := #[] }
def k12m1 : Method := { name := "append", desc := "(Ljava/lang/String;)Ljava/lang/StringBuilder;", sig := { parameters := [(.object "java/lang/String")], returnType := some (.object "java/lang/StringBuilder") }, accessFlags := 1, code := some k12c1 }
def k12c2 : Code := { maxStack := 3, maxLocals := 1, code := jdk_67_method_42_code, exceptionTable := #[], attributes := #[] }
def k12m2 : Method := { name := "toString", desc := "()Ljava/lang/String;", sig := { parameters := [], returnType := some (.object "java/lang/String") }, accessFlags := 1, code := some k12c2 }
def k12c3 : Code := { maxStack := 1, maxLocals := 1, code := jdk_67_method_93_code, exceptionTable := #[], attributes := #[] }
def k12m3 : Method := { name := "length", desc := "()I", sig := { parameters := [], returnType := some .int }, accessFlags := 4161, code := some k12c3 }
/-- java/lang/StringBuilder -/
def k12 : Class := { plain "java/lang/StringBuilder" (some 11) with
  accessFlags := 49
  interfaces := #[10, 2, 3, 4]
  cf := some (fileOf pool12 24 #[] #[{ accessFlags := 1, nameIndex := 5, descriptorIndex := 145, attributes := #[] }, { accessFlags := 1, nameIndex := 27, descriptorIndex := 28, attributes := #[] }, { accessFlags := 1, nameIndex := 399, descriptorIndex := 400, attributes := #[] }, { accessFlags := 4161, nameIndex := 345, descriptorIndex := 156, attributes := #[] }] 49 2 #[349, 351, 353, 355] #[{ accessFlags := 24, nameIndex := 357, descriptorIndex := 358, attributes := #[] }])
  fields := #[{ name := "serialVersionUID", type := .long, accessFlags := 24, slot := 0, constantValue := 0 }]
  methods := #[k12m0, k12m1, k12m2, k12m3]
  instanceTypes := #[(.array .byte), .byte, .boolean, .int]
  staticTypes := #[.long]
  resolved := Array.replicate 422 none
  statics := none }

def pool13 : Array CpInfo := pool [(2, .class_ 4), (1, u "java/lang/Object"), (0, u "<init>"), (0, u "()V"), (1, .class_ 10), (1, u "java/lang/System"), (0, u "allowSecurityManager"), (0, u "I"), (16, u "cons"), (0, u "Ljava/io/Console;"), (77, .class_ 110), (1, u "java/lang/System$CallersHolder"), (43, u "initialErrStream"), (0, u "Ljava/io/PrintStream;"), (19, u "security"), (0, u "Ljava/lang/SecurityManager;"), (31, .class_ 209), (0, u "java/lang/System$1"), (7, u "props"), (0, u "Ljava/util/Properties;"), (2, u "lineSeparator"), (0, u "Ljava/lang/String;"), (96, .class_ 321), (1, u "java/lang/System$LoggerFinder"), (5, .class_ 328), (0, u "java/lang/System$Logger"), (67, u "err"), (2, u "out"), (91, u "notSupportedJnuEncoding"), (15, u "in"), (17, u "initialIn"), (0, u "Ljava/io/InputStream;"), (35, u "bootLayer"), (0, u "Ljava/lang/ModuleLayer;"), (99, .class_ 664), (0, u "java/lang/System$2"), (9, u "NEVER"), (2, u "MAYBE"), (49, u "arraycopy"), (0, u "(Ljava/lang/Object;ILjava/lang/Object;II)V"), (72, .class_ 802), (0, u "java/lang/System$Logger$Level")] 31

def k13m0 : Method := { name := "<init>", desc := "()V", sig := { parameters := [], returnType := none }, accessFlags := 2, code := none }
def k13m1 : Method := { name := "arraycopy", desc := "(Ljava/lang/Object;ILjava/lang/Object;II)V", sig := { parameters := [(.object "java/lang/Object"), .int, (.object "java/lang/Object"), .int, .int], returnType := none }, accessFlags := 265, code := none }
/-- java/lang/System -/
def k13 : Class := { plain "java/lang/System" (some 0) with
  accessFlags := 49
  interfaces := #[]
  cf := some (fileOf pool13 8 #[.nestMembers #[319, 327, 801, 108, 663, 208]] #[{ accessFlags := 2, nameIndex := 5, descriptorIndex := 6, attributes := #[] }, { accessFlags := 265, nameIndex := 727, descriptorIndex := 728, attributes := #[] }] 49 2 #[] #[{ accessFlags := 25, nameIndex := 507, descriptorIndex := 526, attributes := #[] }, { accessFlags := 25, nameIndex := 399, descriptorIndex := 155, attributes := #[] }, { accessFlags := 25, nameIndex := 396, descriptorIndex := 155, attributes := #[] }, { accessFlags := 10, nameIndex := 525, descriptorIndex := 526, attributes := #[] }, { accessFlags := 26, nameIndex := 674, descriptorIndex := 12, attributes := #[] }, { accessFlags := 26, nameIndex := 677, descriptorIndex := 12, attributes := #[] }, { accessFlags := 10, nameIndex := 11, descriptorIndex := 12, attributes := #[] }, { accessFlags := 74, nameIndex := 175, descriptorIndex := 176, attributes := #[] }, { accessFlags := 10, nameIndex := 491, descriptorIndex := 222, attributes := #[] }, { accessFlags := 74, nameIndex := 29, descriptorIndex := 30, attributes := #[] }, { accessFlags := 74, nameIndex := 154, descriptorIndex := 155, attributes := #[] }, { accessFlags := 10, nameIndex := 217, descriptorIndex := 218, attributes := #[] }, { accessFlags := 10, nameIndex := 221, descriptorIndex := 222, attributes := #[] }, { accessFlags := 8, nameIndex := 562, descriptorIndex := 563, attributes := #[] }])
  fields := #[{ name := "in", type := (.object "java/io/InputStream"), accessFlags := 25, slot := 0, constantValue := 0 }, { name := "out", type := (.object "java/io/PrintStream"), accessFlags := 25, slot := 1, constantValue := 0 }, { name := "err", type := (.object "java/io/PrintStream"), accessFlags := 25, slot := 2, constantValue := 0 }, { name := "initialIn", type := (.object "java/io/InputStream"), accessFlags := 10, slot := 3, constantValue := 0 }, { name := "NEVER", type := .int, accessFlags := 26, slot := 4, constantValue := 0 }, { name := "MAYBE", type := .int, accessFlags := 26, slot := 5, constantValue := 0 }, { name := "allowSecurityManager", type := .int, accessFlags := 10, slot := 6, constantValue := 0 }, { name := "security", type := (.object "java/lang/SecurityManager"), accessFlags := 74, slot := 7, constantValue := 0 }, { name := "notSupportedJnuEncoding", type := (.object "java/lang/String"), accessFlags := 10, slot := 8, constantValue := 0 }, { name := "cons", type := (.object "java/io/Console"), accessFlags := 74, slot := 9, constantValue := 0 }, { name := "initialErrStream", type := (.object "java/io/PrintStream"), accessFlags := 74, slot := 10, constantValue := 0 }, { name := "props", type := (.object "java/util/Properties"), accessFlags := 10, slot := 11, constantValue := 0 }, { name := "lineSeparator", type := (.object "java/lang/String"), accessFlags := 10, slot := 12, constantValue := 0 }, { name := "bootLayer", type := (.object "java/lang/ModuleLayer"), accessFlags := 8, slot := 13, constantValue := 0 }]
  methods := #[k13m0, k13m1]
  instanceTypes := #[]
  staticTypes := #[(.object "java/io/InputStream"), (.object "java/io/PrintStream"), (.object "java/io/PrintStream"), (.object "java/io/InputStream"), .int, .int, .int, (.object "java/lang/SecurityManager"), (.object "java/lang/String"), (.object "java/io/Console"), (.object "java/io/PrintStream"), (.object "java/util/Properties"), (.object "java/lang/String"), (.object "java/lang/ModuleLayer")]
  resolved := Array.replicate 834 none
  statics := none }

def pool14 : Array CpInfo := pool [(2, .class_ 4), (1, u "java/lang/Object"), (0, u "<init>"), (0, u "()V"), (7, .class_ 16), (1, u "java/util/Arrays"), (57, .class_ 76), (1, u "java/util/Arrays$NaturalOrder"), (36, .class_ 115), (1, u "java/util/Arrays$LegacyMergeSort"), (1, u "Z"), (21, u "copyOfRange"), (10, .methodref 151 152), (0, .class_ 153), (0, .nameAndType 154 155), (0, u "java/lang/System"), (0, u "arraycopy"), (0, u "(Ljava/lang/Object;ILjava/lang/Object;II)V"), (148, .methodref 305 306), (0, .class_ 307), (0, .nameAndType 308 309), (0, u "java/lang/Math"), (0, u "min"), (0, u "(II)I"), (29, .methodref 14 340), (0, .nameAndType 341 342), (0, u "copyOfRangeByte"), (0, u "([BII)[B"), (0, .methodref 14 344), (0, .nameAndType 345 346), (0, u "checkLength"), (0, u "(II)V"), (28, .class_ 376), (0, u "java/util/Arrays$ArrayList"), (68, u "$assertionsDisabled"), (269, u "MIN_ARRAY_SORT_GRAN"), (0, u "I"), (2, u "INSERTIONSORT_THRESHOLD"), (255, .class_ 976), (0, u "java/util/Arrays$ArrayItr")] 52

def k14m0 : Method := { name := "<init>", desc := "()V", sig := { parameters := [], returnType := none }, accessFlags := 2, code := none }
def k14c1 : Code := { maxStack := 4, maxLocals := 2, code := jdk_65_method_131_code, exceptionTable := #[], attributes := #[] }
def k14m1 : Method := { name := "checkLength", desc := "(II)V", sig := { parameters := [.int, .int], returnType := none }, accessFlags := 10, code := some k14c1 }
def k14c2 : Code := { maxStack := 3, maxLocals := 3, code := jdk_65_method_132_code, exceptionTable := #[], attributes := #[] }
def k14m2 : Method := { name := "copyOfRange", desc := "([BII)[B", sig := { parameters := [(.array .byte), .int, .int], returnType := some (.array .byte) }, accessFlags := 9, code := some k14c2 }
def k14c3 : Code := { maxStack := 6, maxLocals := 5, code := jdk_65_method_133_code, exceptionTable := #[], attributes := #[] }
def k14m3 : Method := { name := "copyOfRangeByte", desc := "([BII)[B", sig := { parameters := [(.array .byte), .int, .int], returnType := some (.array .byte) }, accessFlags := 10, code := some k14c3 }
/-- java/util/Arrays -/
def k14 : Class := { plain "java/util/Arrays" (some 0) with
  accessFlags := 49
  interfaces := #[]
  cf := some (fileOf pool14 14 #[.nestMembers #[975, 375, 113, 74]] #[{ accessFlags := 2, nameIndex := 5, descriptorIndex := 6, attributes := #[] }, { accessFlags := 10, nameIndex := 345, descriptorIndex := 346, attributes := #[] }, { accessFlags := 9, nameIndex := 139, descriptorIndex := 342, attributes := #[] }, { accessFlags := 10, nameIndex := 341, descriptorIndex := 342, attributes := #[] }] 49 2 #[] #[{ accessFlags := 26, nameIndex := 715, descriptorIndex := 716, attributes := #[] }, { accessFlags := 26, nameIndex := 719, descriptorIndex := 716, attributes := #[] }, { accessFlags := 4120, nameIndex := 445, descriptorIndex := 117, attributes := #[] }])
  fields := #[{ name := "MIN_ARRAY_SORT_GRAN", type := .int, accessFlags := 26, slot := 0, constantValue := 0 }, { name := "INSERTIONSORT_THRESHOLD", type := .int, accessFlags := 26, slot := 1, constantValue := 0 }, { name := "$assertionsDisabled", type := .boolean, accessFlags := 4120, slot := 2, constantValue := 0 }]
  methods := #[k14m0, k14m1, k14m2, k14m3]
  instanceTypes := #[]
  staticTypes := #[.int, .int, .boolean]
  resolved := Array.replicate 1029 none
  statics := none }

def pool15 : Array CpInfo := pool [(1, .class_ 2), (0, u "java/lang/Math"), (1, .class_ 6), (1, u "java/lang/Object"), (0, u "<init>"), (0, u "()V"), (89, .class_ 100), (1, u "java/lang/Math$RandomNumberGeneratorHolder"), (71, u "negativeZeroFloatBits"), (0, u "J"), (2, u "negativeZeroDoubleBits"), (24, u "min"), (43, u "$assertionsDisabled"), (0, u "Z"), (88, u "(II)I"), (2, u "twoToTheDoubleScaleDown"), (0, u "D"), (4, u "twoToTheDoubleScaleUp"), (9, u "E"), (3, u "PI"), (2, u "TAU"), (2, u "DEGREES_TO_RADIANS"), (0, u "RADIANS_TO_DEGREES")] 94

def k15m0 : Method := { name := "<init>", desc := "()V", sig := { parameters := [], returnType := none }, accessFlags := 2, code := none }
def k15c1 : Code := { maxStack := 2, maxLocals := 2, code := jdk_29_method_69_code, exceptionTable := #[], attributes := #[] }
def k15m1 : Method := { name := "min", desc := "(II)I", sig := { parameters := [.int, .int], returnType := some .int }, accessFlags := 9, code := some k15c1 }
/-- java/lang/Math -/
def k15 : Class := { plain "java/lang/Math" (some 0) with
  accessFlags := 49
  interfaces := #[]
  cf := some (fileOf pool15 1 #[.nestMembers #[98]] #[{ accessFlags := 2, nameIndex := 7, descriptorIndex := 8, attributes := #[] }, { accessFlags := 9, nameIndex := 201, descriptorIndex := 335, attributes := #[] }] 49 4 #[] #[{ accessFlags := 25, nameIndex := 354, descriptorIndex := 339, attributes := #[] }, { accessFlags := 25, nameIndex := 358, descriptorIndex := 339, attributes := #[] }, { accessFlags := 25, nameIndex := 361, descriptorIndex := 339, attributes := #[] }, { accessFlags := 26, nameIndex := 364, descriptorIndex := 339, attributes := #[] }, { accessFlags := 26, nameIndex := 365, descriptorIndex := 339, attributes := #[] }, { accessFlags := 26, nameIndex := 172, descriptorIndex := 173, attributes := #[] }, { accessFlags := 26, nameIndex := 176, descriptorIndex := 173, attributes := #[] }, { accessFlags := 8, nameIndex := 344, descriptorIndex := 339, attributes := #[] }, { accessFlags := 8, nameIndex := 338, descriptorIndex := 339, attributes := #[] }, { accessFlags := 4120, nameIndex := 245, descriptorIndex := 246, attributes := #[] }])
  fields := #[{ name := "E", type := .double, accessFlags := 25, slot := 0, constantValue := 0 }, { name := "PI", type := .double, accessFlags := 25, slot := 1, constantValue := 0 }, { name := "TAU", type := .double, accessFlags := 25, slot := 2, constantValue := 0 }, { name := "DEGREES_TO_RADIANS", type := .double, accessFlags := 26, slot := 3, constantValue := 0 }, { name := "RADIANS_TO_DEGREES", type := .double, accessFlags := 26, slot := 4, constantValue := 0 }, { name := "negativeZeroFloatBits", type := .long, accessFlags := 26, slot := 5, constantValue := 0 }, { name := "negativeZeroDoubleBits", type := .long, accessFlags := 26, slot := 6, constantValue := 0 }, { name := "twoToTheDoubleScaleUp", type := .double, accessFlags := 8, slot := 7, constantValue := 0 }, { name := "twoToTheDoubleScaleDown", type := .double, accessFlags := 8, slot := 8, constantValue := 0 }, { name := "$assertionsDisabled", type := .boolean, accessFlags := 4120, slot := 9, constantValue := 0 }]
  methods := #[k15m0, k15m1]
  instanceTypes := #[]
  staticTypes := #[.double, .double, .double, .double, .double, .long, .long, .double, .double, .boolean]
  resolved := Array.replicate 460 none
  statics := none }

def pool16 : Array CpInfo := pool [(1, .class_ 2), (0, u "java/lang/String"), (1, .class_ 6), (1, u "java/lang/Object"), (0, u "<init>"), (0, u "()V"), (0, .methodref 1 10), (0, .nameAndType 11 12), (0, u "checkIndex"), (0, u "(II)V"), (1, .class_ 16), (1, u "java/lang/StringLatin1"), (36, u "([BI)C"), (36, u "canEncode"), (14, u "(C)Z"), (15, u "$assertionsDisabled"), (0, u "Z"), (98, .class_ 223), (1, u "java/lang/StringLatin1$LinesSpliterator"), (28, u "charAt"), (127, u "toBytes"), (1, u "(C)[B"), (7, .class_ 391), (0, u "java/lang/StringLatin1$CharsSpliterator")] 3

def k16m0 : Method := { name := "<init>", desc := "()V", sig := { parameters := [], returnType := none }, accessFlags := 0, code := none }
def k16c1 : Code := { maxStack := 2, maxLocals := 2, code := jdk_43_method_2_code, exceptionTable := #[], attributes := #[] }
def k16m1 : Method := { name := "charAt", desc := "([BI)C", sig := { parameters := [(.array .byte), .int], returnType := some .char }, accessFlags := 9, code := some k16c1 }
def k16c2 : Code := { maxStack := 2, maxLocals := 1, code := jdk_43_method_3_code, exceptionTable := #[], attributes := #[] }
def k16m2 : Method := { name := "canEncode", desc := "(C)Z", sig := { parameters := [.char], returnType := some .boolean }, accessFlags := 9, code := some k16c2 }
def k16c3 : Code := { maxStack := 4, maxLocals := 1, code := jdk_43_method_46_code, exceptionTable := #[], attributes := #[] }
def k16m3 : Method := { name := "toBytes", desc := "(C)[B", sig := { parameters := [.char], returnType := some (.array .byte) }, accessFlags := 9, code := some k16c3 }
/-- java/lang/StringLatin1 -/
def k16 : Class := { plain "java/lang/StringLatin1" (some 0) with
  accessFlags := 48
  interfaces := #[]
  cf := some (fileOf pool16 14 #[.nestMembers #[390, 221]] #[{ accessFlags := 0, nameIndex := 7, descriptorIndex := 8, attributes := #[] }, { accessFlags := 9, nameIndex := 252, descriptorIndex := 53, attributes := #[] }, { accessFlags := 9, nameIndex := 90, descriptorIndex := 105, attributes := #[] }, { accessFlags := 9, nameIndex := 380, descriptorIndex := 382, attributes := #[] }] 48 4 #[] #[{ accessFlags := 4120, nameIndex := 121, descriptorIndex := 122, attributes := #[] }])
  fields := #[{ name := "$assertionsDisabled", type := .boolean, accessFlags := 4120, slot := 0, constantValue := 0 }]
  methods := #[k16m0, k16m1, k16m2, k16m3]
  instanceTypes := #[]
  staticTypes := #[.boolean]
  resolved := Array.replicate 395 none
  statics := none }

def pool17 : Array CpInfo := pool [(6, .class_ 8), (1, u "java/lang/Object"), (0, u "<init>"), (0, u "()V"), (1, .class_ 14), (1, u "java/lang/StringUTF16"), (31, u "$assertionsDisabled"), (0, u "Z"), (13, u "HI_BYTE_SHIFT"), (0, u "I"), (2, u "LO_BYTE_SHIFT"), (49, .methodref 12 116), (0, .nameAndType 117 118), (0, u "compress"), (0, u "([CI[BII)I"), (3, u "([CII)[B"), (138, u "coderFromArrayLen"), (0, u "([BI)B"), (106, .class_ 371), (1, u "java/lang/StringUTF16$LinesSpliterator"), (58, u "MAX_LENGTH"), (196, .class_ 628), (0, u "java/lang/StringUTF16$CodePointsSpliterator"), (0, .class_ 630), (0, u "java/lang/StringUTF16$CharsSpliterator")] 4

def k17m0 : Method := { name := "<init>", desc := "()V", sig := { parameters := [], returnType := none }, accessFlags := 0, code := none }
def k17c1 : Code := { maxStack := 2, maxLocals := 2, code := jdk_52_method_15_code, exceptionTable := #[], attributes := #[] }
def k17m1 : Method := { name := "coderFromArrayLen", desc := "([BI)B", sig := { parameters := [(.array .byte), .int], returnType := some .byte }, accessFlags := 8, code := some k17c1 }
def k17c2 : Code := { maxStack := 5, maxLocals := 6, code := jdk_52_method_16_code, exceptionTable := #[], attributes := #[] }
def k17m2 : Method := { name := "compress", desc := "([CII)[B", sig := { parameters := [(.array .char), .int, .int], returnType := some (.array .byte) }, accessFlags := 9, code := some k17c2 }
def k17c3 : Code := { maxStack := 3, maxLocals := 7, code := jdk_52_method_21_code, exceptionTable := #[], attributes := #[] }
def k17m3 : Method := { name := "compress", desc := "([CI[BII)I", sig := { parameters := [(.array .char), .int, (.array .byte), .int, .int], returnType := some .int }, accessFlags := 9, code := some k17c3 }
/-- java/lang/StringUTF16 -/
def k17 : Class := { plain "java/lang/StringUTF16" (some 0) with
  accessFlags := 48
  interfaces := #[]
  cf := some (fileOf pool17 12 #[.nestMembers #[627, 629, 369]] #[{ accessFlags := 0, nameIndex := 9, descriptorIndex := 10, attributes := #[] }, { accessFlags := 8, nameIndex := 261, descriptorIndex := 262, attributes := #[] }, { accessFlags := 9, nameIndex := 117, descriptorIndex := 122, attributes := #[] }, { accessFlags := 9, nameIndex := 117, descriptorIndex := 118, attributes := #[] }] 48 6 #[] #[{ accessFlags := 26, nameIndex := 61, descriptorIndex := 62, attributes := #[] }, { accessFlags := 26, nameIndex := 65, descriptorIndex := 62, attributes := #[] }, { accessFlags := 24, nameIndex := 430, descriptorIndex := 62, attributes := #[] }, { accessFlags := 4120, nameIndex := 46, descriptorIndex := 47, attributes := #[] }])
  fields := #[{ name := "HI_BYTE_SHIFT", type := .int, accessFlags := 26, slot := 0, constantValue := 0 }, { name := "LO_BYTE_SHIFT", type := .int, accessFlags := 26, slot := 1, constantValue := 0 }, { name := "MAX_LENGTH", type := .int, accessFlags := 24, slot := 2, constantValue := 0 }, { name := "$assertionsDisabled", type := .boolean, accessFlags := 4120, slot := 3, constantValue := 0 }]
  methods := #[k17m0, k17m1, k17m2, k17m3]
  instanceTypes := #[]
  staticTypes := #[.int, .int, .int, .boolean]
  resolved := Array.replicate 635 none
  statics := none }

def pool18 : Array CpInfo := pool [(2, .class_ 4), (1, u "java/lang/Object"), (0, u "<init>"), (0, u "()V"), (17, .class_ 26), (1, u "jdk/internal/util/Preconditions"), (6, u "checkIndex"), (21, .class_ 56), (0, u "jdk/internal/util/Preconditions$4"), (57, .class_ 115), (0, u "jdk/internal/util/Preconditions$1"), (7, u "SIOOBE_FORMATTER"), (0, u "Ljava/util/function/BiFunction;"), (0, .class_ 126), (0, u "jdk/internal/util/Preconditions$2"), (3, u "AIOOBE_FORMATTER"), (0, .class_ 132), (0, u "jdk/internal/util/Preconditions$3"), (3, u "IOOBE_FORMATTER"), (41, u "(IILjava/util/function/BiFunction;)I")] 15

def k18m0 : Method := { name := "<init>", desc := "()V", sig := { parameters := [], returnType := none }, accessFlags := 1, code := none }
def k18c1 : Code := { maxStack := 3, maxLocals := 3, code := jdk_41_method_11_code, exceptionTable := #[], attributes := #[] }
def k18m1 : Method := { name := "checkIndex", desc := "(IILjava/util/function/BiFunction;)I", sig := { parameters := [.int, .int, (.object "java/util/function/BiFunction")], returnType := some .int }, accessFlags := 9, code := some k18c1 }
/-- jdk/internal/util/Preconditions -/
def k18 : Class := { plain "jdk/internal/util/Preconditions" (some 0) with
  accessFlags := 33
  interfaces := #[]
  cf := some (fileOf pool18 24 #[.nestMembers #[55, 131, 125, 114]] #[{ accessFlags := 1, nameIndex := 5, descriptorIndex := 6, attributes := #[] }, { accessFlags := 9, nameIndex := 33, descriptorIndex := 178, attributes := #[] }] 33 2 #[] #[{ accessFlags := 25, nameIndex := 123, descriptorIndex := 124, attributes := #[] }, { accessFlags := 25, nameIndex := 130, descriptorIndex := 124, attributes := #[] }, { accessFlags := 25, nameIndex := 136, descriptorIndex := 124, attributes := #[] }])
  fields := #[{ name := "SIOOBE_FORMATTER", type := (.object "java/util/function/BiFunction"), accessFlags := 25, slot := 0, constantValue := 0 }, { name := "AIOOBE_FORMATTER", type := (.object "java/util/function/BiFunction"), accessFlags := 25, slot := 1, constantValue := 0 }, { name := "IOOBE_FORMATTER", type := (.object "java/util/function/BiFunction"), accessFlags := 25, slot := 2, constantValue := 0 }]
  methods := #[k18m0, k18m1]
  instanceTypes := #[]
  staticTypes := #[(.object "java/util/function/BiFunction"), (.object "java/util/function/BiFunction"), (.object "java/util/function/BiFunction")]
  resolved := Array.replicate 194 none
  statics := some 1 }

def pool19 : Array CpInfo := pool [(9, u "<init>"), (6, .class_ 18), (1, u "java/lang/Object"), (0, u "()V"), (1, .class_ 23), (1, u "jdk/internal/util/ArraysSupport"), (0, u "LOG2_ARRAY_LONG_INDEX_SCALE"), (0, u "I"), (2, u "U"), (0, u "Ljdk/internal/misc/Unsafe;"), (8, u "BIG_ENDIAN"), (0, u "Z"), (8, u "LOG2_BYTE_BIT_SIZE"), (4, u "LOG2_ARRAY_INT_INDEX_SCALE"), (54, u "JLA"), (0, u "Ljdk/internal/access/JavaLangAccess;"), (11, u "LOG2_ARRAY_BOOLEAN_INDEX_SCALE"), (9, u "LOG2_ARRAY_BYTE_INDEX_SCALE"), (5, u "LOG2_ARRAY_CHAR_INDEX_SCALE"), (5, u "LOG2_ARRAY_SHORT_INDEX_SCALE"), (18, u "LOG2_ARRAY_FLOAT_INDEX_SCALE"), (24, u "LOG2_ARRAY_DOUBLE_INDEX_SCALE"), (89, u "T_BOOLEAN"), (2, u "T_CHAR"), (1, u "T_FLOAT"), (1, u "T_DOUBLE"), (1, u "T_BYTE"), (1, u "T_SHORT"), (1, u "T_INT"), (1, u "T_LONG"), (1, u "SOFT_MAX_ARRAY_LENGTH")] 83

def k19m0 : Method := { name := "<init>", desc := "()V", sig := { parameters := [], returnType := none }, accessFlags := 2, code := none }
/-- jdk/internal/util/ArraysSupport -/
def k19 : Class := { plain "jdk/internal/util/ArraysSupport" (some 0) with
  accessFlags := 33
  interfaces := #[]
  cf := some (fileOf pool19 21 #[] #[{ accessFlags := 2, nameIndex := 9, descriptorIndex := 19, attributes := #[] }] 33 16 #[] #[{ accessFlags := 24, nameIndex := 28, descriptorIndex := 29, attributes := #[] }, { accessFlags := 26, nameIndex := 38, descriptorIndex := 39, attributes := #[] }, { accessFlags := 25, nameIndex := 121, descriptorIndex := 25, attributes := #[] }, { accessFlags := 25, nameIndex := 131, descriptorIndex := 25, attributes := #[] }, { accessFlags := 25, nameIndex := 137, descriptorIndex := 25, attributes := #[] }, { accessFlags := 25, nameIndex := 143, descriptorIndex := 25, attributes := #[] }, { accessFlags := 25, nameIndex := 53, descriptorIndex := 25, attributes := #[] }, { accessFlags := 25, nameIndex := 24, descriptorIndex := 25, attributes := #[] }, { accessFlags := 25, nameIndex := 162, descriptorIndex := 25, attributes := #[] }, { accessFlags := 25, nameIndex := 187, descriptorIndex := 25, attributes := #[] }, { accessFlags := 26, nameIndex := 48, descriptorIndex := 25, attributes := #[] }, { accessFlags := 25, nameIndex := 277, descriptorIndex := 25, attributes := #[] }, { accessFlags := 25, nameIndex := 280, descriptorIndex := 25, attributes := #[] }, { accessFlags := 25, nameIndex := 282, descriptorIndex := 25, attributes := #[] }, { accessFlags := 25, nameIndex := 284, descriptorIndex := 25, attributes := #[] }, { accessFlags := 25, nameIndex := 286, descriptorIndex := 25, attributes := #[] }, { accessFlags := 25, nameIndex := 288, descriptorIndex := 25, attributes := #[] }, { accessFlags := 25, nameIndex := 290, descriptorIndex := 25, attributes := #[] }, { accessFlags := 25, nameIndex := 292, descriptorIndex := 25, attributes := #[] }, { accessFlags := 26, nameIndex := 108, descriptorIndex := 109, attributes := #[] }, { accessFlags := 25, nameIndex := 294, descriptorIndex := 25, attributes := #[] }])
  fields := #[{ name := "U", type := (.object "jdk/internal/misc/Unsafe"), accessFlags := 24, slot := 0, constantValue := 0 }, { name := "BIG_ENDIAN", type := .boolean, accessFlags := 26, slot := 1, constantValue := 0 }, { name := "LOG2_ARRAY_BOOLEAN_INDEX_SCALE", type := .int, accessFlags := 25, slot := 2, constantValue := 0 }, { name := "LOG2_ARRAY_BYTE_INDEX_SCALE", type := .int, accessFlags := 25, slot := 3, constantValue := 0 }, { name := "LOG2_ARRAY_CHAR_INDEX_SCALE", type := .int, accessFlags := 25, slot := 4, constantValue := 0 }, { name := "LOG2_ARRAY_SHORT_INDEX_SCALE", type := .int, accessFlags := 25, slot := 5, constantValue := 0 }, { name := "LOG2_ARRAY_INT_INDEX_SCALE", type := .int, accessFlags := 25, slot := 6, constantValue := 0 }, { name := "LOG2_ARRAY_LONG_INDEX_SCALE", type := .int, accessFlags := 25, slot := 7, constantValue := 0 }, { name := "LOG2_ARRAY_FLOAT_INDEX_SCALE", type := .int, accessFlags := 25, slot := 8, constantValue := 0 }, { name := "LOG2_ARRAY_DOUBLE_INDEX_SCALE", type := .int, accessFlags := 25, slot := 9, constantValue := 0 }, { name := "LOG2_BYTE_BIT_SIZE", type := .int, accessFlags := 26, slot := 10, constantValue := 0 }, { name := "T_BOOLEAN", type := .int, accessFlags := 25, slot := 11, constantValue := 0 }, { name := "T_CHAR", type := .int, accessFlags := 25, slot := 12, constantValue := 0 }, { name := "T_FLOAT", type := .int, accessFlags := 25, slot := 13, constantValue := 0 }, { name := "T_DOUBLE", type := .int, accessFlags := 25, slot := 14, constantValue := 0 }, { name := "T_BYTE", type := .int, accessFlags := 25, slot := 15, constantValue := 0 }, { name := "T_SHORT", type := .int, accessFlags := 25, slot := 16, constantValue := 0 }, { name := "T_INT", type := .int, accessFlags := 25, slot := 17, constantValue := 0 }, { name := "T_LONG", type := .int, accessFlags := 25, slot := 18, constantValue := 0 }, { name := "JLA", type := (.object "jdk/internal/access/JavaLangAccess"), accessFlags := 26, slot := 19, constantValue := 0 }, { name := "SOFT_MAX_ARRAY_LENGTH", type := .int, accessFlags := 25, slot := 20, constantValue := 0 }]
  methods := #[k19m0]
  instanceTypes := #[]
  staticTypes := #[(.object "jdk/internal/misc/Unsafe"), .boolean, .int, .int, .int, .int, .int, .int, .int, .int, .int, .int, .int, .int, .int, .int, .int, .int, .int, (.object "jdk/internal/access/JavaLangAccess"), .int]
  resolved := Array.replicate 378 none
  statics := none }

def pool20 : Array CpInfo := pool [(1, u "java/lang/Cloneable"), (0, .class_ 1), (0, u "java/lang/Object"), (0, .class_ 3)] 3

/-- java/lang/Cloneable -/
def k20 : Class := { plain "java/lang/Cloneable" (some 0) with
  accessFlags := 1537
  interfaces := #[]
  cf := some (fileOf pool20 2 #[] #[] 1537 4 #[] #[])
  fields := #[]
  methods := #[]
  instanceTypes := #[]
  staticTypes := #[]
  resolved := Array.replicate 8 none
  statics := none }

/-- the primitive byte -/
def k21 : Class := { plain "byte" none with kind := .primitive 'B', accessFlags := 0x411 }
/-- [B -/
def k22 : Class := { plain "[B" (some 0) with kind := .array 21 .byte, interfaces := #[20, 2], accessFlags := 1041 }

/-- the primitive char -/
def k23 : Class := { plain "char" none with kind := .primitive 'C', accessFlags := 0x411 }
/-- [C -/
def k24 : Class := { plain "[C" (some 0) with kind := .array 23 .char, interfaces := #[20, 2], accessFlags := 1041 }

/-- the primitive int -/
def k25 : Class := { plain "int" none with kind := .primitive 'I', accessFlags := 0x411 }
/-- [I -/
def k26 : Class := { plain "[I" (some 0) with kind := .array 25 .int, interfaces := #[20, 2], accessFlags := 1041 }

def heap : Heap := #[{ cls := 7, slots := #[.long 0, .int 1, .null, .int 0, .null, .int 0, .int 0], vm := .statics 7 },
  { cls := 18, slots := #[.null, .null, .null], vm := .statics 18 }]
def classes : Array Class := #[k0, k1, k2, k3, k4, k5, k6, k7, k8, k9, k10, k11, k12, k13, k14, k15, k16, k17, k18, k19, k20, k21, k22, k23, k24, k25, k26]
def interned : List (Array UInt16 × Addr) := []
def slotsUsed : Nat := 10
def theMethod : MethodId := ⟨1, 1⟩
def args0 : Array Value := #[.int 5, .int 7, .int 9]
def aboutOver (below : List Frame) : State where
  vm := { classes := classes, interned := interned.toArray }
  heap := heap
  slotsUsed := slotsUsed
  threads := #[{ frames := .invoking theMethod args0 :: below }]
def below0 : List Frame := [.native { method := ⟨0, 0⟩, args := #[] }]
def about1 : State := aboutOver below0
def p0 : Program := .bare "" "" ""
def e0 : Env := launch0.env 0 0 0
theorem w_frames : about1.frames = Frame.invoking theMethod args0 :: below0 := rfl
set_option maxRecDepth 65536 in
theorem w_args : argsFit about1.vm theMethod args0 = true := by decide +kernel
set_option maxRecDepth 65536 in
theorem w_heap : heapFits about1 = true := by decide +kernel
set_option maxRecDepth 65536 in
theorem w_runnable : about1.curStatus? = some .runnable := by decide +kernel
set_option maxRecDepth 65536 in
theorem w_alone : about1.alone = true := by decide +kernel
set_option maxRecDepth 65536 in
theorem w_named : about1.methodNamed? x = some theMethod := by decide +kernel
set_option maxRecDepth 65536 in
theorem w_hears : about1.hears theMethod below0 = true := by decide +kernel
set_option maxRecDepth 65536 in
theorem w_ripe : about1.ripe theMethod args0 below0 = true := by decide +kernel
theorem w_running : about1.status = .running := rfl
set_option maxRecDepth 65536 in
theorem w_room : about1.hasRoom e0.platform room_1 = true :=
  launch0.hasRoom_least _ room_1 (by decide +kernel) (by decide +kernel) (by decide +kernel) (by decide +kernel) (by decide +kernel) (by decide +kernel)
theorem allAtoms_all (ts : List Jvm.Cond) (a : Array Jvm.Value) (st : Jvm.State) : (allAtoms ts).before a st = ts.all (fun c => c.before a st) := by
  induction ts with
  | nil => rfl
  | cons c t ih =>
    show (Jvm.Cond.and c (allAtoms t)).before a st = _
    rw [Jvm.Cond.before_and, ih, List.all_cons]
def words1 : List Jvm.Cond := Jvm.Cond.code x code maxLocals ret :: tables_1
/-- a 'code' word, met by the world's own term for the bytes: nothing is compared byte by byte -/
theorem code_word {y : MethodName} {bytes : ByteArray} {mx : Nat} {rt : Option FieldType} {a : Array Value} {s : State} {m : MethodId} {meth : Method} {c : Code} (h1 : s.methodNamed? y = some m) (h2 : s.vm.method? m = some meth) (h3 : meth.code = some c) (h4 : c.code = bytes)
    (h5 : (c.maxLocals == mx && c.exceptionTable.isEmpty && decide (c.maxStack ≤ mostOperands) && decide (meth.sig.returnType = rt) && !meth.locks && decide (parseMethodDescriptor y.desc = some meth.sig)) = true) : (Jvm.Cond.code y bytes mx rt).before a s = true := by
  simp only [Bool.and_eq_true, beq_iff_eq, Bool.not_eq_true', decide_eq_true_eq] at h5
  obtain ⟨⟨⟨⟨⟨g1, g2⟩, g3⟩, g4⟩, g5⟩, g6⟩ := h5
  simp [Cond.before, Cond.holds, Cond.value, h1, h2, h3, h4, g1, g2, g3, g4, g5, g6]
def isCode : Jvm.Cond → Bool
  | .code _ _ _ _ => true
  | _ => false
theorem all_split {L : List Jvm.Cond} {P : Jvm.Cond → Bool} (h1 : L.all (fun c => isCode c || P c) = true) (h2 : ∀ c ∈ L.filter isCode, P c = true) : L.all P = true := by
  refine List.all_eq_true.mpr fun c hc => ?_
  have h := List.all_eq_true.mp h1 c hc
  rcases Bool.eq_false_or_eq_true (isCode c) with hi | hi
  · exact h2 c (List.mem_filter.mpr ⟨hc, hi⟩)
  · simpa [hi] using h
set_option maxRecDepth 65536 in
theorem w_c0 : (Jvm.Cond.code x code maxLocals ret).before args0 about1 = true := code_word (m := ⟨1, 1⟩) (meth := k1m1) (c := k1c1) (by decide +kernel) rfl rfl rfl (by decide +kernel)
set_option maxRecDepth 65536 in
theorem w_c1 : (Jvm.Cond.code ({ cls := "com/example/alcance/alcance/IdentifiersQuotedPinLaw", name := "make", desc := "(I[C[CZ)Ljava/lang/String;" } : Jvm.MethodName) method_3_code (6 : Nat) (Option.some (Jvm.ClassFile.FieldType.object "java/lang/String"))).before args0 about1 = true := code_word (m := ⟨1, 2⟩) (meth := k1m2) (c := k1c2) (by decide +kernel) rfl rfl rfl (by decide +kernel)
set_option maxRecDepth 65536 in
theorem w_c2 : (Jvm.Cond.code ({ cls := "com/example/alcance/alcance/Identifiers", name := "<init>", desc := "(ZZLjava/lang/String;)V" } : Jvm.MethodName) prog_3_method_1_code (4 : Nat) (Option.none : Option Jvm.ClassFile.FieldType)).before args0 about1 = true := code_word (m := ⟨9, 0⟩) (meth := k9m0) (c := k9c0) (by decide +kernel) rfl rfl rfl (by decide +kernel)
set_option maxRecDepth 65536 in
theorem w_c3 : (Jvm.Cond.code ({ cls := "java/lang/Record", name := "<init>", desc := "()V" } : Jvm.MethodName) jdk_30_method_1_code (1 : Nat) (Option.none : Option Jvm.ClassFile.FieldType)).before args0 about1 = true := code_word (m := ⟨8, 0⟩) (meth := k8m0) (c := k8c0) (by decide +kernel) rfl rfl rfl (by decide +kernel)
set_option maxRecDepth 65536 in
theorem w_c4 : (Jvm.Cond.code ({ cls := "java/lang/Object", name := "<init>", desc := "()V" } : Jvm.MethodName) object_method_1_code (1 : Nat) (Option.none : Option Jvm.ClassFile.FieldType)).before args0 about1 = true := code_word (m := ⟨0, 0⟩) (meth := k0m0) (c := k0c0) (by decide +kernel) rfl rfl rfl (by decide +kernel)
set_option maxRecDepth 65536 in
theorem w_c5 : (Jvm.Cond.code ({ cls := "com/example/alcance/alcance/Identifiers", name := "quoted", desc := "(Ljava/lang/String;)Ljava/lang/String;" } : Jvm.MethodName) prog_3_method_5_code (2 : Nat) (Option.some (Jvm.ClassFile.FieldType.object "java/lang/String"))).before args0 about1 = true := code_word (m := ⟨9, 1⟩) (meth := k9m1) (c := k9c1) (by decide +kernel) rfl rfl rfl (by decide +kernel)
set_option maxRecDepth 65536 in
theorem w_c6 : (Jvm.Cond.code ({ cls := "java/lang/StringBuilder", name := "<init>", desc := "()V" } : Jvm.MethodName) jdk_67_method_1_code (1 : Nat) (Option.none : Option Jvm.ClassFile.FieldType)).before args0 about1 = true := code_word (m := ⟨12, 0⟩) (meth := k12m0) (c := k12c0) (by decide +kernel) rfl rfl rfl (by decide +kernel)
set_option maxRecDepth 65536 in
theorem w_c7 : (Jvm.Cond.code ({ cls := "java/lang/AbstractStringBuilder", name := "<init>", desc := "(I)V" } : Jvm.MethodName) jdk_68_method_2_code (2 : Nat) (Option.none : Option Jvm.ClassFile.FieldType)).before args0 about1 = true := code_word (m := ⟨11, 1⟩) (meth := k11m1) (c := k11c1) (by decide +kernel) rfl rfl rfl (by decide +kernel)
set_option maxRecDepth 65536 in
theorem w_c8 : (Jvm.Cond.code ({ cls := "java/lang/StringBuilder", name := "append", desc := "(Ljava/lang/String;)Ljava/lang/StringBuilder;" } : Jvm.MethodName) jdk_67_method_7_code (2 : Nat) (Option.some (Jvm.ClassFile.FieldType.object "java/lang/StringBuilder"))).before args0 about1 = true := code_word (m := ⟨12, 1⟩) (meth := k12m1) (c := k12c1) (by decide +kernel) rfl rfl rfl (by decide +kernel)
set_option maxRecDepth 65536 in
theorem w_c9 : (Jvm.Cond.code ({ cls := "java/lang/AbstractStringBuilder", name := "append", desc := "(Ljava/lang/String;)Ljava/lang/AbstractStringBuilder;" } : Jvm.MethodName) jdk_68_method_22_code (3 : Nat) (Option.some (Jvm.ClassFile.FieldType.object "java/lang/AbstractStringBuilder"))).before args0 about1 = true := code_word (m := ⟨11, 4⟩) (meth := k11m4) (c := k11c4) (by decide +kernel) rfl rfl rfl (by decide +kernel)
set_option maxRecDepth 65536 in
theorem w_c10 : (Jvm.Cond.code ({ cls := "java/lang/String", name := "length", desc := "()I" } : Jvm.MethodName) jdk_42_method_54_code (1 : Nat) (Option.some Jvm.ClassFile.FieldType.int)).before args0 about1 = true := code_word (m := ⟨7, 3⟩) (meth := k7m3) (c := k7c3) (by decide +kernel) rfl rfl rfl (by decide +kernel)
set_option maxRecDepth 65536 in
theorem w_c11 : (Jvm.Cond.code ({ cls := "java/lang/String", name := "coder", desc := "()B" } : Jvm.MethodName) jdk_42_method_152_code (1 : Nat) (Option.some Jvm.ClassFile.FieldType.byte)).before args0 about1 = true := code_word (m := ⟨7, 10⟩) (meth := k7m10) (c := k7c10) (by decide +kernel) rfl rfl rfl (by decide +kernel)
set_option maxRecDepth 65536 in
theorem w_c12 : (Jvm.Cond.code ({ cls := "java/lang/AbstractStringBuilder", name := "ensureCapacityInternal", desc := "(I)V" } : Jvm.MethodName) jdk_68_method_9_code (3 : Nat) (Option.none : Option Jvm.ClassFile.FieldType)).before args0 about1 = true := code_word (m := ⟨11, 3⟩) (meth := k11m3) (c := k11c3) (by decide +kernel) rfl rfl rfl (by decide +kernel)
set_option maxRecDepth 65536 in
theorem w_c13 : (Jvm.Cond.code ({ cls := "java/lang/AbstractStringBuilder", name := "putStringAt", desc := "(ILjava/lang/String;)V" } : Jvm.MethodName) jdk_68_method_73_code (3 : Nat) (Option.none : Option Jvm.ClassFile.FieldType)).before args0 about1 = true := code_word (m := ⟨11, 8⟩) (meth := k11m8) (c := k11c8) (by decide +kernel) rfl rfl rfl (by decide +kernel)
set_option maxRecDepth 65536 in
theorem w_c14 : (Jvm.Cond.code ({ cls := "java/lang/AbstractStringBuilder", name := "inflateIfNeededFor", desc := "(Ljava/lang/String;)V" } : Jvm.MethodName) jdk_68_method_71_code (2 : Nat) (Option.none : Option Jvm.ClassFile.FieldType)).before args0 about1 = true := code_word (m := ⟨11, 7⟩) (meth := k11m7) (c := k11c7) (by decide +kernel) rfl rfl rfl (by decide +kernel)
set_option maxRecDepth 65536 in
theorem w_c15 : (Jvm.Cond.code ({ cls := "java/lang/String", name := "getBytes", desc := "([BIB)V" } : Jvm.MethodName) jdk_42_method_147_code (4 : Nat) (Option.none : Option Jvm.ClassFile.FieldType)).before args0 about1 = true := code_word (m := ⟨7, 6⟩) (meth := k7m6) (c := k7c6) (by decide +kernel) rfl rfl rfl (by decide +kernel)
set_option maxRecDepth 65536 in
theorem w_c16 : (Jvm.Cond.code ({ cls := "java/lang/StringBuilder", name := "toString", desc := "()Ljava/lang/String;" } : Jvm.MethodName) jdk_67_method_42_code (1 : Nat) (Option.some (Jvm.ClassFile.FieldType.object "java/lang/String"))).before args0 about1 = true := code_word (m := ⟨12, 2⟩) (meth := k12m2) (c := k12c2) (by decide +kernel) rfl rfl rfl (by decide +kernel)
set_option maxRecDepth 65536 in
theorem w_c17 : (Jvm.Cond.code ({ cls := "java/lang/String", name := "<init>", desc := "(Ljava/lang/StringBuilder;)V" } : Jvm.MethodName) jdk_42_method_53_code (2 : Nat) (Option.none : Option Jvm.ClassFile.FieldType)).before args0 about1 = true := code_word (m := ⟨7, 2⟩) (meth := k7m2) (c := k7c2) (by decide +kernel) rfl rfl rfl (by decide +kernel)
set_option maxRecDepth 65536 in
theorem w_c18 : (Jvm.Cond.code ({ cls := "java/lang/String", name := "<init>", desc := "(Ljava/lang/AbstractStringBuilder;Ljava/lang/Void;)V" } : Jvm.MethodName) jdk_42_method_150_code (5 : Nat) (Option.none : Option Jvm.ClassFile.FieldType)).before args0 about1 = true := code_word (m := ⟨7, 8⟩) (meth := k7m8) (c := k7c8) (by decide +kernel) rfl rfl rfl (by decide +kernel)
set_option maxRecDepth 65536 in
theorem w_c19 : (Jvm.Cond.code ({ cls := "java/lang/AbstractStringBuilder", name := "getValue", desc := "()[B" } : Jvm.MethodName) jdk_68_method_64_code (1 : Nat) (Option.some (Jvm.ClassFile.FieldType.array Jvm.ClassFile.FieldType.byte))).before args0 about1 = true := code_word (m := ⟨11, 5⟩) (meth := k11m5) (c := k11c5) (by decide +kernel) rfl rfl rfl (by decide +kernel)
set_option maxRecDepth 65536 in
theorem w_c20 : (Jvm.Cond.code ({ cls := "java/lang/StringBuilder", name := "length", desc := "()I" } : Jvm.MethodName) jdk_67_method_93_code (1 : Nat) (Option.some Jvm.ClassFile.FieldType.int)).before args0 about1 = true := code_word (m := ⟨12, 3⟩) (meth := k12m3) (c := k12c3) (by decide +kernel) rfl rfl rfl (by decide +kernel)
set_option maxRecDepth 65536 in
theorem w_c21 : (Jvm.Cond.code ({ cls := "java/lang/AbstractStringBuilder", name := "length", desc := "()I" } : Jvm.MethodName) jdk_68_method_6_code (1 : Nat) (Option.some Jvm.ClassFile.FieldType.int)).before args0 about1 = true := code_word (m := ⟨11, 2⟩) (meth := k11m2) (c := k11c2) (by decide +kernel) rfl rfl rfl (by decide +kernel)
set_option maxRecDepth 65536 in
theorem w_c22 : (Jvm.Cond.code ({ cls := "java/lang/AbstractStringBuilder", name := "isLatin1", desc := "()Z" } : Jvm.MethodName) jdk_68_method_68_code (1 : Nat) (Option.some Jvm.ClassFile.FieldType.boolean)).before args0 about1 = true := code_word (m := ⟨11, 6⟩) (meth := k11m6) (c := k11c6) (by decide +kernel) rfl rfl rfl (by decide +kernel)
set_option maxRecDepth 65536 in
theorem w_c23 : (Jvm.Cond.code ({ cls := "java/util/Arrays", name := "copyOfRange", desc := "([BII)[B" } : Jvm.MethodName) jdk_65_method_132_code (3 : Nat) (Option.some (Jvm.ClassFile.FieldType.array Jvm.ClassFile.FieldType.byte))).before args0 about1 = true := code_word (m := ⟨14, 2⟩) (meth := k14m2) (c := k14c2) (by decide +kernel) rfl rfl rfl (by decide +kernel)
set_option maxRecDepth 65536 in
theorem w_c24 : (Jvm.Cond.code ({ cls := "java/util/Arrays", name := "copyOfRangeByte", desc := "([BII)[B" } : Jvm.MethodName) jdk_65_method_133_code (5 : Nat) (Option.some (Jvm.ClassFile.FieldType.array Jvm.ClassFile.FieldType.byte))).before args0 about1 = true := code_word (m := ⟨14, 3⟩) (meth := k14m3) (c := k14c3) (by decide +kernel) rfl rfl rfl (by decide +kernel)
set_option maxRecDepth 65536 in
theorem w_c25 : (Jvm.Cond.code ({ cls := "java/util/Arrays", name := "checkLength", desc := "(II)V" } : Jvm.MethodName) jdk_65_method_131_code (2 : Nat) (Option.none : Option Jvm.ClassFile.FieldType)).before args0 about1 = true := code_word (m := ⟨14, 1⟩) (meth := k14m1) (c := k14c1) (by decide +kernel) rfl rfl rfl (by decide +kernel)
set_option maxRecDepth 65536 in
theorem w_c26 : (Jvm.Cond.code ({ cls := "java/lang/Math", name := "min", desc := "(II)I" } : Jvm.MethodName) jdk_29_method_69_code (2 : Nat) (Option.some Jvm.ClassFile.FieldType.int)).before args0 about1 = true := code_word (m := ⟨15, 1⟩) (meth := k15m1) (c := k15c1) (by decide +kernel) rfl rfl rfl (by decide +kernel)
set_option maxRecDepth 65536 in
theorem w_c27 : (Jvm.Cond.code ({ cls := "com/example/alcance/alcance/IdentifiersQuotedPinLaw", name := "ok", desc := "(Ljava/lang/String;IIII[C[C)Z" } : Jvm.MethodName) method_5_code (7 : Nat) (Option.some Jvm.ClassFile.FieldType.boolean)).before args0 about1 = true := code_word (m := ⟨1, 4⟩) (meth := k1m4) (c := k1c4) (by decide +kernel) rfl rfl rfl (by decide +kernel)
set_option maxRecDepth 65536 in
theorem w_c28 : (Jvm.Cond.code ({ cls := "java/lang/String", name := "valueOf", desc := "(C)Ljava/lang/String;" } : Jvm.MethodName) jdk_42_method_139_code (1 : Nat) (Option.some (Jvm.ClassFile.FieldType.object "java/lang/String"))).before args0 about1 = true := code_word (m := ⟨7, 5⟩) (meth := k7m5) (c := k7c5) (by decide +kernel) rfl rfl rfl (by decide +kernel)
set_option maxRecDepth 65536 in
theorem w_c29 : (Jvm.Cond.code ({ cls := "java/lang/StringLatin1", name := "canEncode", desc := "(C)Z" } : Jvm.MethodName) jdk_43_method_3_code (1 : Nat) (Option.some Jvm.ClassFile.FieldType.boolean)).before args0 about1 = true := code_word (m := ⟨16, 2⟩) (meth := k16m2) (c := k16c2) (by decide +kernel) rfl rfl rfl (by decide +kernel)
set_option maxRecDepth 65536 in
theorem w_c30 : (Jvm.Cond.code ({ cls := "java/lang/StringLatin1", name := "toBytes", desc := "(C)[B" } : Jvm.MethodName) jdk_43_method_46_code (1 : Nat) (Option.some (Jvm.ClassFile.FieldType.array Jvm.ClassFile.FieldType.byte))).before args0 about1 = true := code_word (m := ⟨16, 3⟩) (meth := k16m3) (c := k16c3) (by decide +kernel) rfl rfl rfl (by decide +kernel)
set_option maxRecDepth 65536 in
theorem w_c31 : (Jvm.Cond.code ({ cls := "java/lang/String", name := "<init>", desc := "([BB)V" } : Jvm.MethodName) jdk_42_method_151_code (3 : Nat) (Option.none : Option Jvm.ClassFile.FieldType)).before args0 about1 = true := code_word (m := ⟨7, 9⟩) (meth := k7m9) (c := k7c9) (by decide +kernel) rfl rfl rfl (by decide +kernel)
set_option maxRecDepth 65536 in
theorem w_c32 : (Jvm.Cond.code ({ cls := "java/lang/String", name := "<init>", desc := "([C)V" } : Jvm.MethodName) jdk_42_method_3_code (2 : Nat) (Option.none : Option Jvm.ClassFile.FieldType)).before args0 about1 = true := code_word (m := ⟨7, 1⟩) (meth := k7m1) (c := k7c1) (by decide +kernel) rfl rfl rfl (by decide +kernel)
set_option maxRecDepth 65536 in
theorem w_c33 : (Jvm.Cond.code ({ cls := "java/lang/String", name := "<init>", desc := "([CIILjava/lang/Void;)V" } : Jvm.MethodName) jdk_42_method_149_code (6 : Nat) (Option.none : Option Jvm.ClassFile.FieldType)).before args0 about1 = true := code_word (m := ⟨7, 7⟩) (meth := k7m7) (c := k7c7) (by decide +kernel) rfl rfl rfl (by decide +kernel)
set_option maxRecDepth 65536 in
theorem w_c34 : (Jvm.Cond.code ({ cls := "java/lang/StringUTF16", name := "compress", desc := "([CII)[B" } : Jvm.MethodName) jdk_52_method_16_code (6 : Nat) (Option.some (Jvm.ClassFile.FieldType.array Jvm.ClassFile.FieldType.byte))).before args0 about1 = true := code_word (m := ⟨17, 2⟩) (meth := k17m2) (c := k17c2) (by decide +kernel) rfl rfl rfl (by decide +kernel)
set_option maxRecDepth 65536 in
theorem w_c35 : (Jvm.Cond.code ({ cls := "java/lang/StringUTF16", name := "compress", desc := "([CI[BII)I" } : Jvm.MethodName) jdk_52_method_21_code (7 : Nat) (Option.some Jvm.ClassFile.FieldType.int)).before args0 about1 = true := code_word (m := ⟨17, 3⟩) (meth := k17m3) (c := k17c3) (by decide +kernel) rfl rfl rfl (by decide +kernel)
set_option maxRecDepth 65536 in
theorem w_c36 : (Jvm.Cond.code ({ cls := "java/lang/StringUTF16", name := "coderFromArrayLen", desc := "([BI)B" } : Jvm.MethodName) jdk_52_method_15_code (2 : Nat) (Option.some Jvm.ClassFile.FieldType.byte)).before args0 about1 = true := code_word (m := ⟨17, 1⟩) (meth := k17m1) (c := k17c1) (by decide +kernel) rfl rfl rfl (by decide +kernel)
set_option maxRecDepth 65536 in
theorem w_c37 : (Jvm.Cond.code ({ cls := "java/lang/String", name := "charAt", desc := "(I)C" } : Jvm.MethodName) jdk_42_method_56_code (2 : Nat) (Option.some Jvm.ClassFile.FieldType.char)).before args0 about1 = true := code_word (m := ⟨7, 4⟩) (meth := k7m4) (c := k7c4) (by decide +kernel) rfl rfl rfl (by decide +kernel)
set_option maxRecDepth 65536 in
theorem w_c38 : (Jvm.Cond.code ({ cls := "java/lang/String", name := "isLatin1", desc := "()Z" } : Jvm.MethodName) jdk_42_method_154_code (1 : Nat) (Option.some Jvm.ClassFile.FieldType.boolean)).before args0 about1 = true := code_word (m := ⟨7, 11⟩) (meth := k7m11) (c := k7c11) (by decide +kernel) rfl rfl rfl (by decide +kernel)
set_option maxRecDepth 65536 in
theorem w_c39 : (Jvm.Cond.code ({ cls := "java/lang/StringLatin1", name := "charAt", desc := "([BI)C" } : Jvm.MethodName) jdk_43_method_2_code (2 : Nat) (Option.some Jvm.ClassFile.FieldType.char)).before args0 about1 = true := code_word (m := ⟨16, 1⟩) (meth := k16m1) (c := k16c1) (by decide +kernel) rfl rfl rfl (by decide +kernel)
set_option maxRecDepth 65536 in
theorem w_c40 : (Jvm.Cond.code ({ cls := "java/lang/String", name := "checkIndex", desc := "(II)V" } : Jvm.MethodName) jdk_42_method_155_code (2 : Nat) (Option.none : Option Jvm.ClassFile.FieldType)).before args0 about1 = true := code_word (m := ⟨7, 12⟩) (meth := k7m12) (c := k7c12) (by decide +kernel) rfl rfl rfl (by decide +kernel)
set_option maxRecDepth 65536 in
theorem w_c41 : (Jvm.Cond.code ({ cls := "jdk/internal/util/Preconditions", name := "checkIndex", desc := "(IILjava/util/function/BiFunction;)I" } : Jvm.MethodName) jdk_41_method_11_code (3 : Nat) (Option.some Jvm.ClassFile.FieldType.int)).before args0 about1 = true := code_word (m := ⟨18, 1⟩) (meth := k18m1) (c := k18c1) (by decide +kernel) rfl rfl rfl (by decide +kernel)
set_option maxRecDepth 65536 in
theorem w_c42 : (Jvm.Cond.code ({ cls := "com/example/alcance/alcance/IdentifiersQuotedPinLaw", name := "expectedAt", desc := "(III[C[C)C" } : Jvm.MethodName) method_4_code (7 : Nat) (Option.some Jvm.ClassFile.FieldType.char)).before args0 about1 = true := code_word (m := ⟨1, 3⟩) (meth := k1m3) (c := k1c3) (by decide +kernel) rfl rfl rfl (by decide +kernel)
def codes1 : List Jvm.Cond := [Jvm.Cond.code x code maxLocals ret, Jvm.Cond.code ({ cls := "com/example/alcance/alcance/IdentifiersQuotedPinLaw", name := "make", desc := "(I[C[CZ)Ljava/lang/String;" } : Jvm.MethodName) method_3_code (6 : Nat) (Option.some (Jvm.ClassFile.FieldType.object "java/lang/String")), Jvm.Cond.code ({ cls := "com/example/alcance/alcance/Identifiers", name := "<init>", desc := "(ZZLjava/lang/String;)V" } : Jvm.MethodName) prog_3_method_1_code (4 : Nat) (Option.none : Option Jvm.ClassFile.FieldType), Jvm.Cond.code ({ cls := "java/lang/Record", name := "<init>", desc := "()V" } : Jvm.MethodName) jdk_30_method_1_code (1 : Nat) (Option.none : Option Jvm.ClassFile.FieldType), Jvm.Cond.code ({ cls := "java/lang/Object", name := "<init>", desc := "()V" } : Jvm.MethodName) object_method_1_code (1 : Nat) (Option.none : Option Jvm.ClassFile.FieldType), Jvm.Cond.code ({ cls := "com/example/alcance/alcance/Identifiers", name := "quoted", desc := "(Ljava/lang/String;)Ljava/lang/String;" } : Jvm.MethodName) prog_3_method_5_code (2 : Nat) (Option.some (Jvm.ClassFile.FieldType.object "java/lang/String")), Jvm.Cond.code ({ cls := "java/lang/StringBuilder", name := "<init>", desc := "()V" } : Jvm.MethodName) jdk_67_method_1_code (1 : Nat) (Option.none : Option Jvm.ClassFile.FieldType), Jvm.Cond.code ({ cls := "java/lang/AbstractStringBuilder", name := "<init>", desc := "(I)V" } : Jvm.MethodName) jdk_68_method_2_code (2 : Nat) (Option.none : Option Jvm.ClassFile.FieldType), Jvm.Cond.code ({ cls := "java/lang/StringBuilder", name := "append", desc := "(Ljava/lang/String;)Ljava/lang/StringBuilder;" } : Jvm.MethodName) jdk_67_method_7_code (2 : Nat) (Option.some (Jvm.ClassFile.FieldType.object "java/lang/StringBuilder")), Jvm.Cond.code ({ cls := "java/lang/AbstractStringBuilder", name := "append", desc := "(Ljava/lang/String;)Ljava/lang/AbstractStringBuilder;" } : Jvm.MethodName) jdk_68_method_22_code (3 : Nat) (Option.some (Jvm.ClassFile.FieldType.object "java/lang/AbstractStringBuilder")), Jvm.Cond.code ({ cls := "java/lang/String", name := "length", desc := "()I" } : Jvm.MethodName) jdk_42_method_54_code (1 : Nat) (Option.some Jvm.ClassFile.FieldType.int), Jvm.Cond.code ({ cls := "java/lang/String", name := "coder", desc := "()B" } : Jvm.MethodName) jdk_42_method_152_code (1 : Nat) (Option.some Jvm.ClassFile.FieldType.byte), Jvm.Cond.code ({ cls := "java/lang/AbstractStringBuilder", name := "ensureCapacityInternal", desc := "(I)V" } : Jvm.MethodName) jdk_68_method_9_code (3 : Nat) (Option.none : Option Jvm.ClassFile.FieldType), Jvm.Cond.code ({ cls := "java/lang/AbstractStringBuilder", name := "putStringAt", desc := "(ILjava/lang/String;)V" } : Jvm.MethodName) jdk_68_method_73_code (3 : Nat) (Option.none : Option Jvm.ClassFile.FieldType), Jvm.Cond.code ({ cls := "java/lang/AbstractStringBuilder", name := "inflateIfNeededFor", desc := "(Ljava/lang/String;)V" } : Jvm.MethodName) jdk_68_method_71_code (2 : Nat) (Option.none : Option Jvm.ClassFile.FieldType), Jvm.Cond.code ({ cls := "java/lang/String", name := "getBytes", desc := "([BIB)V" } : Jvm.MethodName) jdk_42_method_147_code (4 : Nat) (Option.none : Option Jvm.ClassFile.FieldType), Jvm.Cond.code ({ cls := "java/lang/StringBuilder", name := "toString", desc := "()Ljava/lang/String;" } : Jvm.MethodName) jdk_67_method_42_code (1 : Nat) (Option.some (Jvm.ClassFile.FieldType.object "java/lang/String")), Jvm.Cond.code ({ cls := "java/lang/String", name := "<init>", desc := "(Ljava/lang/StringBuilder;)V" } : Jvm.MethodName) jdk_42_method_53_code (2 : Nat) (Option.none : Option Jvm.ClassFile.FieldType), Jvm.Cond.code ({ cls := "java/lang/String", name := "<init>", desc := "(Ljava/lang/AbstractStringBuilder;Ljava/lang/Void;)V" } : Jvm.MethodName) jdk_42_method_150_code (5 : Nat) (Option.none : Option Jvm.ClassFile.FieldType), Jvm.Cond.code ({ cls := "java/lang/AbstractStringBuilder", name := "getValue", desc := "()[B" } : Jvm.MethodName) jdk_68_method_64_code (1 : Nat) (Option.some (Jvm.ClassFile.FieldType.array Jvm.ClassFile.FieldType.byte)), Jvm.Cond.code ({ cls := "java/lang/StringBuilder", name := "length", desc := "()I" } : Jvm.MethodName) jdk_67_method_93_code (1 : Nat) (Option.some Jvm.ClassFile.FieldType.int), Jvm.Cond.code ({ cls := "java/lang/AbstractStringBuilder", name := "length", desc := "()I" } : Jvm.MethodName) jdk_68_method_6_code (1 : Nat) (Option.some Jvm.ClassFile.FieldType.int), Jvm.Cond.code ({ cls := "java/lang/AbstractStringBuilder", name := "isLatin1", desc := "()Z" } : Jvm.MethodName) jdk_68_method_68_code (1 : Nat) (Option.some Jvm.ClassFile.FieldType.boolean), Jvm.Cond.code ({ cls := "java/util/Arrays", name := "copyOfRange", desc := "([BII)[B" } : Jvm.MethodName) jdk_65_method_132_code (3 : Nat) (Option.some (Jvm.ClassFile.FieldType.array Jvm.ClassFile.FieldType.byte)), Jvm.Cond.code ({ cls := "java/util/Arrays", name := "copyOfRangeByte", desc := "([BII)[B" } : Jvm.MethodName) jdk_65_method_133_code (5 : Nat) (Option.some (Jvm.ClassFile.FieldType.array Jvm.ClassFile.FieldType.byte)), Jvm.Cond.code ({ cls := "java/util/Arrays", name := "checkLength", desc := "(II)V" } : Jvm.MethodName) jdk_65_method_131_code (2 : Nat) (Option.none : Option Jvm.ClassFile.FieldType), Jvm.Cond.code ({ cls := "java/lang/Math", name := "min", desc := "(II)I" } : Jvm.MethodName) jdk_29_method_69_code (2 : Nat) (Option.some Jvm.ClassFile.FieldType.int), Jvm.Cond.code ({ cls := "com/example/alcance/alcance/IdentifiersQuotedPinLaw", name := "ok", desc := "(Ljava/lang/String;IIII[C[C)Z" } : Jvm.MethodName) method_5_code (7 : Nat) (Option.some Jvm.ClassFile.FieldType.boolean), Jvm.Cond.code ({ cls := "java/lang/String", name := "valueOf", desc := "(C)Ljava/lang/String;" } : Jvm.MethodName) jdk_42_method_139_code (1 : Nat) (Option.some (Jvm.ClassFile.FieldType.object "java/lang/String")), Jvm.Cond.code ({ cls := "java/lang/StringLatin1", name := "canEncode", desc := "(C)Z" } : Jvm.MethodName) jdk_43_method_3_code (1 : Nat) (Option.some Jvm.ClassFile.FieldType.boolean), Jvm.Cond.code ({ cls := "java/lang/StringLatin1", name := "toBytes", desc := "(C)[B" } : Jvm.MethodName) jdk_43_method_46_code (1 : Nat) (Option.some (Jvm.ClassFile.FieldType.array Jvm.ClassFile.FieldType.byte)), Jvm.Cond.code ({ cls := "java/lang/String", name := "<init>", desc := "([BB)V" } : Jvm.MethodName) jdk_42_method_151_code (3 : Nat) (Option.none : Option Jvm.ClassFile.FieldType), Jvm.Cond.code ({ cls := "java/lang/String", name := "<init>", desc := "([C)V" } : Jvm.MethodName) jdk_42_method_3_code (2 : Nat) (Option.none : Option Jvm.ClassFile.FieldType), Jvm.Cond.code ({ cls := "java/lang/String", name := "<init>", desc := "([CIILjava/lang/Void;)V" } : Jvm.MethodName) jdk_42_method_149_code (6 : Nat) (Option.none : Option Jvm.ClassFile.FieldType), Jvm.Cond.code ({ cls := "java/lang/StringUTF16", name := "compress", desc := "([CII)[B" } : Jvm.MethodName) jdk_52_method_16_code (6 : Nat) (Option.some (Jvm.ClassFile.FieldType.array Jvm.ClassFile.FieldType.byte)), Jvm.Cond.code ({ cls := "java/lang/StringUTF16", name := "compress", desc := "([CI[BII)I" } : Jvm.MethodName) jdk_52_method_21_code (7 : Nat) (Option.some Jvm.ClassFile.FieldType.int), Jvm.Cond.code ({ cls := "java/lang/StringUTF16", name := "coderFromArrayLen", desc := "([BI)B" } : Jvm.MethodName) jdk_52_method_15_code (2 : Nat) (Option.some Jvm.ClassFile.FieldType.byte), Jvm.Cond.code ({ cls := "java/lang/String", name := "charAt", desc := "(I)C" } : Jvm.MethodName) jdk_42_method_56_code (2 : Nat) (Option.some Jvm.ClassFile.FieldType.char), Jvm.Cond.code ({ cls := "java/lang/String", name := "isLatin1", desc := "()Z" } : Jvm.MethodName) jdk_42_method_154_code (1 : Nat) (Option.some Jvm.ClassFile.FieldType.boolean), Jvm.Cond.code ({ cls := "java/lang/StringLatin1", name := "charAt", desc := "([BI)C" } : Jvm.MethodName) jdk_43_method_2_code (2 : Nat) (Option.some Jvm.ClassFile.FieldType.char), Jvm.Cond.code ({ cls := "java/lang/String", name := "checkIndex", desc := "(II)V" } : Jvm.MethodName) jdk_42_method_155_code (2 : Nat) (Option.none : Option Jvm.ClassFile.FieldType), Jvm.Cond.code ({ cls := "jdk/internal/util/Preconditions", name := "checkIndex", desc := "(IILjava/util/function/BiFunction;)I" } : Jvm.MethodName) jdk_41_method_11_code (3 : Nat) (Option.some Jvm.ClassFile.FieldType.int), Jvm.Cond.code ({ cls := "com/example/alcance/alcance/IdentifiersQuotedPinLaw", name := "expectedAt", desc := "(III[C[C)C" } : Jvm.MethodName) method_4_code (7 : Nat) (Option.some Jvm.ClassFile.FieldType.char)]
set_option maxRecDepth 65536 in
theorem codes_eq : words1.filter isCode = codes1 := rfl
theorem w_codes : ∀ c ∈ words1.filter isCode, c.before args0 about1 = true := by
  rw [codes_eq]
  intro c hc
  simp only [codes1, List.mem_cons, List.not_mem_nil, or_false] at hc
  rcases hc with rfl | rfl | rfl | rfl | rfl | rfl | rfl | rfl | rfl | rfl | rfl | rfl | rfl | rfl | rfl | rfl | rfl | rfl | rfl | rfl | rfl | rfl | rfl | rfl | rfl | rfl | rfl | rfl | rfl | rfl | rfl | rfl | rfl | rfl | rfl | rfl | rfl | rfl | rfl | rfl | rfl | rfl | rfl
  · exact w_c0
  · exact w_c1
  · exact w_c2
  · exact w_c3
  · exact w_c4
  · exact w_c5
  · exact w_c6
  · exact w_c7
  · exact w_c8
  · exact w_c9
  · exact w_c10
  · exact w_c11
  · exact w_c12
  · exact w_c13
  · exact w_c14
  · exact w_c15
  · exact w_c16
  · exact w_c17
  · exact w_c18
  · exact w_c19
  · exact w_c20
  · exact w_c21
  · exact w_c22
  · exact w_c23
  · exact w_c24
  · exact w_c25
  · exact w_c26
  · exact w_c27
  · exact w_c28
  · exact w_c29
  · exact w_c30
  · exact w_c31
  · exact w_c32
  · exact w_c33
  · exact w_c34
  · exact w_c35
  · exact w_c36
  · exact w_c37
  · exact w_c38
  · exact w_c39
  · exact w_c40
  · exact w_c41
  · exact w_c42
set_option maxRecDepth 65536 in
theorem w_t1 : (words1.take 24).all (fun c => isCode c || c.before args0 about1) = true := by decide +kernel
set_option maxRecDepth 65536 in
theorem w_t2 : ((words1.drop 24).take 24).all (fun c => isCode c || c.before args0 about1) = true := by decide +kernel
set_option maxRecDepth 65536 in
theorem w_t3 : (((words1.drop 24).drop 24).take 24).all (fun c => isCode c || c.before args0 about1) = true := by decide +kernel
set_option maxRecDepth 65536 in
theorem w_t4 : ((((words1.drop 24).drop 24).drop 24).take 24).all (fun c => isCode c || c.before args0 about1) = true := by decide +kernel
set_option maxRecDepth 65536 in
theorem w_t5 : (((((words1.drop 24).drop 24).drop 24).drop 24).take 24).all (fun c => isCode c || c.before args0 about1) = true := by decide +kernel
set_option maxRecDepth 65536 in
theorem w_t6 : ((((((words1.drop 24).drop 24).drop 24).drop 24).drop 24).take 24).all (fun c => isCode c || c.before args0 about1) = true := by decide +kernel
set_option maxRecDepth 65536 in
theorem w_t7 : (((((((words1.drop 24).drop 24).drop 24).drop 24).drop 24).drop 24).take 24).all (fun c => isCode c || c.before args0 about1) = true := by decide +kernel
set_option maxRecDepth 65536 in
theorem w_t8 : ((((((((words1.drop 24).drop 24).drop 24).drop 24).drop 24).drop 24).drop 24).take 24).all (fun c => isCode c || c.before args0 about1) = true := by decide +kernel
set_option maxRecDepth 65536 in
theorem w_t9 : ((((((((words1.drop 24).drop 24).drop 24).drop 24).drop 24).drop 24).drop 24).drop 24).all (fun c => isCode c || c.before args0 about1) = true := by decide +kernel
theorem w_tables : (allAtoms (Jvm.Cond.code x code maxLocals ret :: tables_1)).before args0 about1 = true := by
  rw [allAtoms_all]
  show words1.all (fun c => c.before args0 about1) = true
  refine all_split ?_ w_codes
  rw [← List.take_append_drop 24 words1, List.all_append, w_t1, ← List.take_append_drop 24 (words1.drop 24), List.all_append, w_t2, ← List.take_append_drop 24 ((words1.drop 24).drop 24), List.all_append, w_t3, ← List.take_append_drop 24 (((words1.drop 24).drop 24).drop 24), List.all_append, w_t4, ← List.take_append_drop 24 ((((words1.drop 24).drop 24).drop 24).drop 24), List.all_append, w_t5, ← List.take_append_drop 24 (((((words1.drop 24).drop 24).drop 24).drop 24).drop 24), List.all_append, w_t6, ← List.take_append_drop 24 ((((((words1.drop 24).drop 24).drop 24).drop 24).drop 24).drop 24), List.all_append, w_t7, ← List.take_append_drop 24 (((((((words1.drop 24).drop 24).drop 24).drop 24).drop 24).drop 24).drop 24), List.all_append, w_t8, w_t9]
  rfl
set_option maxRecDepth 65536 in
theorem w_rest : rest_1_c.before args0 about1 = true := by decide +kernel
set_option maxRecDepth 65536 in
theorem w_case : (Jvm.Cond.and given_1 narrow_1).before args0 about1 = true := by decide +kernel
set_option maxRecDepth 65536 in
theorem w_consts : constsHeld consts_1 about1 := Jvm.Lit.constsHeldB_iff.mp (by decide +kernel)
theorem w_applies : (headSpec (Jvm.Cond.code x code maxLocals ret :: tables_1) room_1).applies x e0.platform about1 = true :=
  (Spec.applies_iff w_frames).mpr ⟨w_running, w_runnable, w_alone, w_named, w_hears, w_ripe, w_room, w_tables⟩
theorem atStart : AtStart classFile x code maxLocals ret World_1 tables_1 room_1 Calls_1 rest_1 Pre_1 launch0 p0 e0 about1 theMethod args0 below0 :=
  ⟨lists_1, trivial, launch0.admits_env _ _ _, launch0.least_env, fairChoices_fair.cas, fairChoices_fair.clock, w_frames, w_args, w_heap, w_applies, ⟨w_consts, trivial⟩, w_rest, w_case⟩
end start1
theorem witness_1 : WitnessClaimed_1 := ⟨start1.p0, start1.e0, start1.about1, start1.theMethod, start1.args0, start1.below0, start1.atStart⟩
end Jvm.Pilot.@@N@@
