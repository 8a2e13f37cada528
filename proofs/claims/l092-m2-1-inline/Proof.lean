import JvmDerived
import JvmDerived.Pilot.@@N@@Statement
import JvmDerived.Pilot.@@N@@Code
set_option linter.unusedVariables false
set_option linter.unusedSimpArgs false
@@BLOCK:LamKit.lean.txt@@
namespace Jvm.Pilot.@@N@@
open Jvm Jvm.ClassFile Sem Op Lib Jvm.Free Jvm.Stand Jvm.LawKit Jvm.RoadKit Bundle Jvm.Pilot.@@N@@.Jvm.D
section OwnKit
variable {p : Program} {l : Launch} {e : Env} {R : Room} {s : State} {m : MethodId} {args : Array Value} {below : List Frame} {meth : Method} {c : Code} {T : State} {locs : List Loc} {cells slots : Nat}
/-- from T with the frame F on top the body ends, and its end is as P says -/
def Rch (p : Program) (e : Env) (below : List Frame) (T : State) (F : JFrame) (P : Outcome → State → Prop) : Prop := ∃ s₂ o, Steps p.tables e below (T.setTop F) s₂ ∧ s₂.status = .running ∧ Ended s₂ below o ∧ P o s₂
theorem Rch.st {P : Outcome → State → Prop} {T T' : State} {F F' : JFrame} (k : ∀ t, Steps p.tables e below (T'.setTop F') t → Steps p.tables e below (T.setTop F) t) (h : Rch p e below T' F' P) : Rch p e below T F P :=
  let ⟨a, o, h1, h2⟩ := h
  ⟨a, o, k _ h1, h2⟩
theorem Rch.sq {P : Outcome → State → Prop} {T T' : State} {F F' : JFrame} (k : Steps p.tables e below (T.setTop F) (T'.setTop F')) (h : Rch p e below T' F' P) : Rch p e below T F P := Rch.st (fun _ q => k.trans q) h
theorem Rch.cast {P : Outcome → State → Prop} {T : State} {F F' : JFrame} (q : F = F') (h : Rch p e below T F' P) : Rch p e below T F P := q ▸ h
/-- a return, as a contract says it -/
def FinP (s : State) (Q : Option Value → Heap → List Loc → Prop) (K N : Nat) (o : Outcome) (U : State) : Prop := ∃ v L, o = .returned v ∧ Q v U.heap L ∧ FrameEnd s o U L K N
theorem Rch.retV (X : Stand p l e R s m args below meth c T locs cells slots) (hx : p.tables.exec = Jvm.exec) {pc : Nat} {Ls : Array Slot} {w : Value} {t : FieldType} {i : Instr} {rest : List Value} {Q : Option Value → Heap → List Loc → Prop} {K N : Nat} (hret : meth.sig.returnType = some t) (hn : narrow t w = w)
    (hi : (i = .ireturn ∧ (t = .int ∨ t = .boolean ∨ t = .byte ∨ t = .char ∨ t = .short) ∧ ∃ z, w = .int z) ∨ (i = .lreturn ∧ t = .long ∧ ∃ z, w = .long z) ∨ (i = .dreturn ∧ t = .double ∧ ∃ z, w = .double z) ∨ (i = .freturn ∧ t = .float ∧ ∃ z, w = .float z) ∨ (i = .areturn ∧ t.isReference = true ∧ w.isRef = true))
    (hd : decode c.code pc = .ok (i, 1)) (hq : Q (some w) T.heap locs) (hk : cells ≤ K) (hs : slots ≤ N) (hlocks : meth.locks = false := by first | assumption | exact BodyLoose.notSynchronized (by assumption) | exact Body.notSynchronized (by assumption)) : Rch p e below T (mkF m pc Ls (w :: rest)) (FinP s Q K N) := by
  obtain ⟨fs, hr, hrun, hended, hW, hsame⟩ := X.leave (v := some w) (fun h => by rw [hret] at h; cases h) hlocks
  exact ⟨_, _, retOut X hx hret hn hi hd hr, hrun, hended, _, _, rfl, hq, ⟨_, rfl⟩, hW, hsame.mono hk hs⟩
theorem Rch.ret0 (X : Stand p l e R s m args below meth c T locs cells slots) (hx : p.tables.exec = Jvm.exec) {pc : Nat} {Ls : Array Slot} {Q : Option Value → Heap → List Loc → Prop} {K N : Nat} (hret : meth.sig.returnType = none)
    (hd : decode c.code pc = .ok (.return_, 1)) (hq : Q none T.heap locs) (hk : cells ≤ K) (hs : slots ≤ N) (hlocks : meth.locks = false := by first | assumption | exact BodyLoose.notSynchronized (by assumption) | exact Body.notSynchronized (by assumption)) : Rch p e below T (mkF m pc Ls []) (FinP s Q K N) := by
  obtain ⟨fs, hr, hrun, hended, hW, hsame⟩ := X.leave (v := none) (fun _ => rfl) hlocks
  exact ⟨_, _, X.returnOut hx hret hd hr, hrun, hended, _, _, rfl, hq, ⟨_, rfl⟩, hW, hsame.mono hk hs⟩
theorem Rnar {t : FieldType} {w : Value} (h : w.isRef = true) : narrow t w = w := by cases w <;> first | (cases t <;> rfl) | (simp [Value.isRef] at h)
theorem Rfit {t : FieldType} {w : Value} (ht : t.isReference = true) (h : w.isRef = true) : fits t w = true := by cases t <;> first | (cases ht; done) | (cases w <;> simp [Value.isRef, fits] at h ⊢)
theorem own_selP {args : Array Value} {y : MethodName} {n : Nat} (wi : (Cond.instantiable y.cls n).before args s = true) (hpriv : s.PrivateAt y) (hinst : (Cond.instanceMethod y).before args s = true) (hy : y.cls ≠ "java/lang/invoke/MethodHandle" ∧ y.cls ≠ "java/lang/invoke/VarHandle") : (Cond.selects y.cls y y).before args s = true := by
  obtain ⟨c2, k2, i1, i2, i3, i4⟩ := Cond.instantiable_spec wi
  exact selects_self_of_private i1 i2 (by simp_all) hpriv hinst hy
theorem lremM {g : JFrame} {target : State} (X : Stand p l e R s m args below meth c T locs cells slots) (hx : p.tables.exec = Jvm.exec) (hg : g.method = m) {x y : Int64} {rest : List Value} (hd : decode c.code g.pc = .ok (.lrem, 1)) (hs : g.stack = .long y :: .long x :: rest) (hy : y ≠ 0)
    (hr : Steps p.tables e below (T.setTop { g with pc := g.pc + 1, stack := .long (x % y) :: rest }) target) : Steps p.tables e below (T.setTop g) target := XT.lrem X.here hx hg hd hs hy (by rw [lrem_mod]; exact hr)
theorem ldc2D {g : JFrame} {target : State} (X : Stand p l e R s m args below meth c T locs cells slots) (hx : p.tables.exec = Jvm.exec) {own : String} {index : Nat} {b : UInt64} (hown : s.vm.findClass own = some m.cls) (hconst : (Cond.constantDouble own index b).before args s = true) (hg : g.method = m) (hd : decode c.code g.pc = .ok (.ldc2_w index, 3))
    (hr : Steps p.tables e below (T.setTop { g with pc := g.pc + 3, stack := .double b :: g.stack }) target) : Steps p.tables e below (T.setTop g) target := X.ldc2DoubleC hx hown hconst hg hd target hr
theorem own_face {args : Array Value} {C : String} {x z : MethodName} (hsel : (Cond.selects C x z).before args s = true) : ∃ mk k, s.methodNamed? z = some mk ∧ s.vm.classes[mk.cls]? = some k ∧ k.isInterface = false := by
  obtain ⟨c2, r2, m2, -, -, q3, -, kP, hkP, hkPi⟩ := Cond.selects_spec hsel
  exact ⟨_, kP, q3, hkP, hkPi⟩
theorem own_nf {args : Array Value} {C : String} {x y z : MethodName} (hsel : (Cond.selects C x z).before args s = true) (hz : z.cls = y.cls) : NotFace s y := fun r0 h0 => by
  obtain ⟨mk, k, h1, h2, h3⟩ := own_face hsel
  have hc1 := findClass_of_methodNamed h1
  have hc2 := findClass_of_methodNamed h0
  rw [hz, hc2] at hc1
  have e : r0.cls = mk.cls := Option.some.inj hc1
  exact ⟨k, by rw [e]; exact h2, h3⟩
theorem own_selQ {args : Array Value} {C : String} {x y : MethodName} (hsel : (Cond.selects C x y).before args s = true) (hpriv : s.PrivateAt y) (hinst : (Cond.instanceMethod y).before args s = true) (hy : y.cls ≠ "java/lang/invoke/MethodHandle" ∧ y.cls ≠ "java/lang/invoke/VarHandle") : (Cond.selects y.cls y y).before args s = true := by
  obtain ⟨mk, k, h1, h2, h3⟩ := own_face hsel
  exact selects_self_of_private (findClass_of_methodNamed h1) h2 h3 hpriv hinst hy
theorem own_sameM {args : Array Value} {C : String} {x y z : MethodName} (hsel : (Cond.selects C x z).before args s = true) (hz : z.cls = y.cls) (hinst : (Cond.instanceMethod y).before args s = true) (hy : y.cls ≠ "java/lang/invoke/MethodHandle" ∧ y.cls ≠ "java/lang/invoke/VarHandle") : (Cond.sameMethod y.cls y.cls y.name y.desc).before args s = true := by
  obtain ⟨mk, k, h1, h2, h3⟩ := own_face hsel
  obtain ⟨my, methM, hnamed, hmethM, -, -⟩ := Cond.instanceMethod_spec hinst
  have hfound : s.methodFound? y.cls y.name y.desc = some my := State.methodFound?_of_named hnamed hy
  have hc1 := findClass_of_methodNamed h1
  have hc2 := findClass_of_methodNamed hnamed
  rw [hz, hc2] at hc1
  have e : my.cls = mk.cls := Option.some.inj hc1
  simp only [Cond.before, Cond.holds, Cond.value, hc2, hfound, show s.methodNamed? ⟨y.cls, y.name, y.desc⟩ = some my from hnamed, e, h2]
  simp [h3]
end OwnKit
/-- what stood at the start Z stands in h; whatever lies at or above n0 is new since then -/
def OldL (Z : State) (n0 : Nat) (h : Heap) : Prop := Z.heap.size ≤ n0 ∧ Ext Z.heap h
theorem OldL.start (s : State) : OldL s s.heap.size s.heap := ⟨Nat.le_refl _, Nat.le_refl _, fun _ _ q => q⟩
theorem OldL.ext {Z : State} {n0 : Nat} {h h' : Heap} (X : OldL Z n0 h) (E : Ext h h') : OldL Z n0 h' := ⟨X.1, Nat.le_trans X.2.1 E.1, fun x c q => E.2 x c (X.2.2 x c q)⟩
theorem OldL.keep {Z : State} {n0 : Nat} {h h' : Heap} {ws : List Addr} (X : OldL Z n0 h) (K : Keep h h' ws) (q : ∀ x ∈ ws, n0 ≤ x) : OldL Z n0 h' := ⟨X.1, Nat.le_trans X.2.1 K.1, fun x c r => K.2.1 x c (X.2.2 x c r) fun z => absurd (Nat.lt_of_lt_of_le (Array.getElem?_eq_some_iff.mp r).1 X.1) (Nat.not_lt.mpr (q x z))⟩
theorem OldL.wr {Z : State} {n0 : Nat} {h h' : Heap} {a : Addr} {sl : Nat} {v : Value} (X : OldL Z n0 h) (W : Wr h h' a sl v) (q : n0 ≤ a) : OldL Z n0 h' := X.keep (Keep.of_wr W) (allS q all0)
theorem OldL.up {Z : State} {n0 : Nat} {h : Heap} {k : Nat} (X : OldL Z n0 h) (q : n0 ≤ k) : OldL Z k h := ⟨Nat.le_trans X.1 q, X.2⟩
theorem own_Fr {k k' : Nat} {L : List Loc} (q : k ≤ k') (N : Fr k' L) : Fr k L := fun y hy => Nat.le_trans q (N y hy)
section OwnArr
variable {p : Program} {l : Launch} {e : Env} {R : Room} {s : State} {m : MethodId} {args : Array Value} {below : List Frame} {meth : Method} {c : Code} {T Z : State} {locs : List Loc} {cells slots : Nat} {h : Heap} {a : Addr} {k : ClassId} {n j x : Int32} {vs : List Value} {d v : Value} {g : JFrame} {rest : List Value} {target : State}
theorem own_alen {ty : FieldType} (X : Stand p l e R s m args below meth c T locs cells slots) (hx : p.tables.exec = Jvm.exec) (hZ : Z.Warmed39 s.vm) (eT : T.heap = h) (V : Arv Z h a k ty n vs d) (hg : g.method = m) (hs : g.stack = .ref a :: rest) (hd : decode c.code g.pc = .ok (.arraylength, 1))
    (hr : Steps p.tables e below (T.setTop { g with pc := g.pc + 1, stack := .int n :: rest }) target) : Steps p.tables e below (T.setTop g) target := by
  obtain ⟨cl, Ar, q, S, M, H, G⟩ := V
  refine X.arraylength hx (by rw [eT]; exact Ar.1) (State.isArrayOf_alike hZ.alike Ar.2.1) hg hs hd _ ?_
  rw [len_of S M]; exact hr
theorem own_ldB (X : Stand p l e R s m args below meth c T locs cells slots) (hx : p.tables.exec = Jvm.exec) (hZ : Z.Warmed39 s.vm) (eT : T.heap = h) (V : Arv Z h a k .byte n vs d) (hj : ¬ j < 0 ∧ j < n) (hv : vs.getD j.toNatClampNeg d = v) (hg : g.method = m) (hs : g.stack = .int j :: .ref a :: rest) (hd : decode c.code g.pc = .ok (.baload, 1))
    (hr : Steps p.tables e below (T.setTop { g with pc := g.pc + 1, stack := v :: rest }) target) : Steps p.tables e below (T.setTop g) target := by
  obtain ⟨cl, Ar, q, S, M, H, G⟩ := V
  exact X.baloadBytes hx (by rw [eT]; exact Ar.1) (State.isArrayOf_alike hZ.alike Ar.2.1) Ar.2.2 (inb_of S hj) (H.at (inb_of S hj) hv) hg hs hd _ hr
theorem own_ldC (X : Stand p l e R s m args below meth c T locs cells slots) (hx : p.tables.exec = Jvm.exec) (hZ : Z.Warmed39 s.vm) (eT : T.heap = h) (V : Arv Z h a k .char n vs d) (hj : ¬ j < 0 ∧ j < n) (hv : vs.getD j.toNatClampNeg d = v) (hg : g.method = m) (hs : g.stack = .int j :: .ref a :: rest) (hd : decode c.code g.pc = .ok (.caload, 1))
    (hr : Steps p.tables e below (T.setTop { g with pc := g.pc + 1, stack := v :: rest }) target) : Steps p.tables e below (T.setTop g) target := by
  obtain ⟨cl, Ar, q, S, M, H, G⟩ := V
  exact X.caload hx (by rw [eT]; exact Ar.1) (State.isArrayOf_alike hZ.alike Ar.2.1) Ar.2.2 (inb_of S hj) (H.at (inb_of S hj) hv) hg hs hd _ hr
theorem own_stC (X : Stand p l e R s m args below meth c T locs cells slots) (hx : p.tables.exec = Jvm.exec) (hZ : Z.Warmed39 s.vm) (eT : T.heap = h) (V : Arv Z h a k .char n vs d) (hj : ¬ j < 0 ∧ j < n) (i : Nat) (hi : j.toNatClampNeg = i) (hl : i < vs.length) (hg : g.method = m) (hs : g.stack = .int x :: .int j :: .ref a :: rest) (hd : decode c.code g.pc = .ok (.castore, 1)) :
    ∃ T' h', Stand p l e R s m args below meth c T' (locs ++ [⟨a, j.toNatClampNeg⟩]) cells slots ∧ T'.heap = h' ∧ Wr h h' a j.toNatClampNeg (.int (nar .char x)) ∧ Arv Z h' a k .char n (vs.set i (.int (nar .char x))) d ∧ ∀ target, Steps p.tables e below (T'.setTop { g with pc := g.pc + 1, stack := rest }) target → Steps p.tables e below (T.setTop g) target := by
  obtain ⟨cl, Ar, q, S, M, H, G⟩ := V
  obtain ⟨T', h', X', e', W, st⟩ := stC X hx hZ eT Ar (inb_of S hj) hg hs hd
  exact ⟨T', h', X', e', W, Arv.set Ar q S M H G (fits_nar_char _) W i hi hl, st⟩
theorem own_stB (X : Stand p l e R s m args below meth c T locs cells slots) (hx : p.tables.exec = Jvm.exec) (hZ : Z.Warmed39 s.vm) (eT : T.heap = h) (V : Arv Z h a k .byte n vs d) (hj : ¬ j < 0 ∧ j < n) (i : Nat) (hi : j.toNatClampNeg = i) (hl : i < vs.length) (hg : g.method = m) (hs : g.stack = .int x :: .int j :: .ref a :: rest) (hd : decode c.code g.pc = .ok (.bastore, 1)) :
    ∃ T' h', Stand p l e R s m args below meth c T' (locs ++ [⟨a, j.toNatClampNeg⟩]) cells slots ∧ T'.heap = h' ∧ Wr h h' a j.toNatClampNeg (.int x.toInt8.toInt32) ∧ Arv Z h' a k .byte n (vs.set i (.int x.toInt8.toInt32)) d ∧ ∀ target, Steps p.tables e below (T'.setTop { g with pc := g.pc + 1, stack := rest }) target → Steps p.tables e below (T.setTop g) target := by
  obtain ⟨cl, Ar, q, S, M, H, G⟩ := V
  obtain ⟨T', h', X', e', W, st⟩ := stB X hx hZ eT Ar (inb_of S hj) hg hs hd
  exact ⟨T', h', X', e', W, Arv.set Ar q S M H G (fits_nar_byte _) W i hi hl, st⟩
end OwnArr
section OwnSteps
variable {p : Program} {l : Launch} {e : Env} {R : Room} {s : State} {m : MethodId} {args : Array Value} {below : List Frame} {meth : Method} {c : Code} {T : State} {locs : List Loc} {cells slots : Nat} {b : ByteArray} {P : Outcome → State → Prop} {Ls l' : Array Slot} {st : List Value} {pc : Nat}
theorem w_iloadN {pc' : Nat} {k : Fin 4} {v : Int32} (X : Stand p l e R s m args below meth c T locs cells slots) (hx : p.tables.exec = Jvm.exec) (hby : c.code = b) (hd : decode b pc = .ok (.iload_n k, 1)) (hl : Ls[k.val]? = some (.val (.int v))) (hp : pc + 1 = pc') (H : Rch p e below T (mkF m pc' Ls (.int v :: st)) P) : Rch p e below T (mkF m pc Ls st) P := by subst hp; exact Rch.st (fun _ q => XS.iloadN X.here hx rfl (hb hby hd) hl q) H
theorem w_iload {pc' : Nat} {k : Nat} {v : Int32} (X : Stand p l e R s m args below meth c T locs cells slots) (hx : p.tables.exec = Jvm.exec) (hby : c.code = b) (hd : decode b pc = .ok (.iload k, 2)) (hl : Ls[k]? = some (.val (.int v))) (hp : pc + 2 = pc') (H : Rch p e below T (mkF m pc' Ls (.int v :: st)) P) : Rch p e below T (mkF m pc Ls st) P := by subst hp; exact Rch.st (fun _ q => XS.iload X.here hx rfl (hb hby hd) hl q) H
theorem w_istoreN {pc' : Nat} {k : Fin 4} {v : Int32} (X : Stand p l e R s m args below meth c T locs cells slots) (hx : p.tables.exec = Jvm.exec) (hby : c.code = b) (hd : decode b pc = .ok (.istore_n k, 1)) (hl : storeLocals Ls k.val (.int v) = some l') (hp : pc + 1 = pc') (H : Rch p e below T (mkF m pc' l' st) P) : Rch p e below T (mkF m pc Ls (.int v :: st)) P := by subst hp; exact Rch.st (fun _ q => XS.istoreN X.here hx rfl (hb hby hd) rfl hl q) H
theorem w_istore {pc' : Nat} {k : Nat} {v : Int32} (X : Stand p l e R s m args below meth c T locs cells slots) (hx : p.tables.exec = Jvm.exec) (hby : c.code = b) (hd : decode b pc = .ok (.istore k, 2)) (hl : storeLocals Ls k (.int v) = some l') (hp : pc + 2 = pc') (H : Rch p e below T (mkF m pc' l' st) P) : Rch p e below T (mkF m pc Ls (.int v :: st)) P := by subst hp; exact Rch.st (fun _ q => XS.istore X.here hx rfl (hb hby hd) rfl hl q) H
theorem w_aloadN {pc' : Nat} {k : Fin 4} {v : Value} (X : Stand p l e R s m args below meth c T locs cells slots) (hx : p.tables.exec = Jvm.exec) (hby : c.code = b) (hd : decode b pc = .ok (.aload_n k, 1)) (hl : Ls[k.val]? = some (.val v)) (hv : v.isRef = true) (hp : pc + 1 = pc') (H : Rch p e below T (mkF m pc' Ls (v :: st)) P) : Rch p e below T (mkF m pc Ls st) P := by subst hp; exact Rch.st (fun _ q => XS.aloadN X.here hx rfl (hb hby hd) hl hv q) H
theorem w_aload {pc' : Nat} {k : Nat} {v : Value} (X : Stand p l e R s m args below meth c T locs cells slots) (hx : p.tables.exec = Jvm.exec) (hby : c.code = b) (hd : decode b pc = .ok (.aload k, 2)) (hl : Ls[k]? = some (.val v)) (hv : v.isRef = true) (hp : pc + 2 = pc') (H : Rch p e below T (mkF m pc' Ls (v :: st)) P) : Rch p e below T (mkF m pc Ls st) P := by subst hp; exact Rch.st (fun _ q => XS.aload X.here hx rfl (hb hby hd) hl hv q) H
theorem w_astoreN {pc' : Nat} {k : Fin 4} {v : Value} (X : Stand p l e R s m args below meth c T locs cells slots) (hx : p.tables.exec = Jvm.exec) (hby : c.code = b) (hd : decode b pc = .ok (.astore_n k, 1)) (hv : v.isRef = true) (hl : storeLocals Ls k.val v = some l') (hp : pc + 1 = pc') (H : Rch p e below T (mkF m pc' l' st) P) : Rch p e below T (mkF m pc Ls (v :: st)) P := by subst hp; exact Rch.st (fun _ q => XS.astoreN X.here hx rfl (hb hby hd) rfl hv hl q) H
theorem w_astore {pc' : Nat} {k : Nat} {v : Value} (X : Stand p l e R s m args below meth c T locs cells slots) (hx : p.tables.exec = Jvm.exec) (hby : c.code = b) (hd : decode b pc = .ok (.astore k, 2)) (hv : v.isRef = true) (hl : storeLocals Ls k v = some l') (hp : pc + 2 = pc') (H : Rch p e below T (mkF m pc' l' st) P) : Rch p e below T (mkF m pc Ls (v :: st)) P := by subst hp; exact Rch.st (fun _ q => XS.astore X.here hx rfl (hb hby hd) rfl hv hl q) H
theorem w_iconst {pc' : Nat} {i : Int} {v : Int32} (X : Stand p l e R s m args below meth c T locs cells slots) (hx : p.tables.exec = Jvm.exec) (hby : c.code = b) (hd : decode b pc = .ok (.iconst i, 1)) (hv : Int32.ofInt i = v) (hp : pc + 1 = pc') (H : Rch p e below T (mkF m pc' Ls (.int v :: st)) P) : Rch p e below T (mkF m pc Ls st) P := by subst hp hv; exact Rch.st (fun _ q => XS.iconst X.here hx rfl (hb hby hd)  q) H
theorem w_bipush {pc' : Nat} {i : Int} {v : Int32} (X : Stand p l e R s m args below meth c T locs cells slots) (hx : p.tables.exec = Jvm.exec) (hby : c.code = b) (hd : decode b pc = .ok (.bipush i, 2)) (hv : (Int8.ofInt i).toInt32 = v) (hp : pc + 2 = pc') (H : Rch p e below T (mkF m pc' Ls (.int v :: st)) P) : Rch p e below T (mkF m pc Ls st) P := by subst hp hv; exact Rch.st (fun _ q => XS.bipush X.here hx rfl (hb hby hd)  q) H
theorem w_sipush {pc' : Nat} {i : Int} {v : Int32} (X : Stand p l e R s m args below meth c T locs cells slots) (hx : p.tables.exec = Jvm.exec) (hby : c.code = b) (hd : decode b pc = .ok (.sipush i, 3)) (hv : (Int16.ofInt i).toInt32 = v) (hp : pc + 3 = pc') (H : Rch p e below T (mkF m pc' Ls (.int v :: st)) P) : Rch p e below T (mkF m pc Ls st) P := by subst hp hv; exact Rch.st (fun _ q => XS.sipush X.here hx rfl (hb hby hd)  q) H
theorem w_aconstNull {pc' : Nat}  (X : Stand p l e R s m args below meth c T locs cells slots) (hx : p.tables.exec = Jvm.exec) (hby : c.code = b) (hd : decode b pc = .ok (.aconst_null, 1)) (hp : pc + 1 = pc') (H : Rch p e below T (mkF m pc' Ls (.null :: st)) P) : Rch p e below T (mkF m pc Ls st) P := by subst hp; exact Rch.st (fun _ q => XS.aconstNull X.here hx rfl (hb hby hd)  q) H
theorem w_iadd {pc' : Nat} {x y : Int32} (X : Stand p l e R s m args below meth c T locs cells slots) (hx : p.tables.exec = Jvm.exec) (hby : c.code = b) (hd : decode b pc = .ok (.iadd, 1)) (hp : pc + 1 = pc') (H : Rch p e below T (mkF m pc' Ls (.int (x + y) :: st)) P) : Rch p e below T (mkF m pc Ls (.int y :: .int x :: st)) P := by subst hp; exact Rch.st (fun _ q => XS.iadd X.here hx rfl (hb hby hd) rfl q) H
theorem w_isub {pc' : Nat} {x y : Int32} (X : Stand p l e R s m args below meth c T locs cells slots) (hx : p.tables.exec = Jvm.exec) (hby : c.code = b) (hd : decode b pc = .ok (.isub, 1)) (hp : pc + 1 = pc') (H : Rch p e below T (mkF m pc' Ls (.int (x - y) :: st)) P) : Rch p e below T (mkF m pc Ls (.int y :: .int x :: st)) P := by subst hp; exact Rch.st (fun _ q => XS.isub X.here hx rfl (hb hby hd) rfl q) H
theorem w_iand {pc' : Nat} {x y : Int32} (X : Stand p l e R s m args below meth c T locs cells slots) (hx : p.tables.exec = Jvm.exec) (hby : c.code = b) (hd : decode b pc = .ok (.iand, 1)) (hp : pc + 1 = pc') (H : Rch p e below T (mkF m pc' Ls (.int (x &&& y) :: st)) P) : Rch p e below T (mkF m pc Ls (.int y :: .int x :: st)) P := by subst hp; exact Rch.st (fun _ q => XS.iand X.here hx rfl (hb hby hd) rfl q) H
theorem w_ixor {pc' : Nat} {x y : Int32} (X : Stand p l e R s m args below meth c T locs cells slots) (hx : p.tables.exec = Jvm.exec) (hby : c.code = b) (hd : decode b pc = .ok (.ixor, 1)) (hp : pc + 1 = pc') (H : Rch p e below T (mkF m pc' Ls (.int (x ^^^ y) :: st)) P) : Rch p e below T (mkF m pc Ls (.int y :: .int x :: st)) P := by subst hp; exact Rch.st (fun _ q => XT.ixor X.here hx rfl (hb hby hd) rfl q) H
theorem w_ishl {pc' : Nat} {x y : Int32} (X : Stand p l e R s m args below meth c T locs cells slots) (hx : p.tables.exec = Jvm.exec) (hby : c.code = b) (hd : decode b pc = .ok (.ishl, 1)) (hp : pc + 1 = pc') (H : Rch p e below T (mkF m pc' Ls (.int (x <<< (y &&& 31)) :: st)) P) : Rch p e below T (mkF m pc Ls (.int y :: .int x :: st)) P := by subst hp; exact Rch.st (fun _ q => XT.ishl X.here hx rfl (hb hby hd) rfl q) H
theorem w_ishr {pc' : Nat} {x y : Int32} (X : Stand p l e R s m args below meth c T locs cells slots) (hx : p.tables.exec = Jvm.exec) (hby : c.code = b) (hd : decode b pc = .ok (.ishr, 1)) (hp : pc + 1 = pc') (H : Rch p e below T (mkF m pc' Ls (.int (x >>> (y &&& 31)) :: st)) P) : Rch p e below T (mkF m pc Ls (.int y :: .int x :: st)) P := by subst hp; exact Rch.st (fun _ q => XT.ishr X.here hx rfl (hb hby hd) rfl q) H
theorem w_iushr {pc' : Nat} {x y : Int32} (X : Stand p l e R s m args below meth c T locs cells slots) (hx : p.tables.exec = Jvm.exec) (hby : c.code = b) (hd : decode b pc = .ok (.iushr, 1)) (hp : pc + 1 = pc') (H : Rch p e below T (mkF m pc' Ls (.int (XT.ushr x y) :: st)) P) : Rch p e below T (mkF m pc Ls (.int y :: .int x :: st)) P := by subst hp; exact Rch.st (fun _ q => XT.iushr X.here hx rfl (hb hby hd) rfl q) H
theorem w_i2c {pc' : Nat} {x : Int32} (X : Stand p l e R s m args below meth c T locs cells slots) (hx : p.tables.exec = Jvm.exec) (hby : c.code = b) (hd : decode b pc = .ok (.i2c, 1)) (hp : pc + 1 = pc') (H : Rch p e below T (mkF m pc' Ls (.int (nar .char x) :: st)) P) : Rch p e below T (mkF m pc Ls (.int x :: st)) P := by subst hp; exact Rch.st (fun _ q => XT.i2c X.here hx rfl (hb hby hd) rfl q) H
theorem w_i2b {pc' : Nat} {x : Int32} (X : Stand p l e R s m args below meth c T locs cells slots) (hx : p.tables.exec = Jvm.exec) (hby : c.code = b) (hd : decode b pc = .ok (.i2b, 1)) (hp : pc + 1 = pc') (H : Rch p e below T (mkF m pc' Ls (.int (x.toInt8.toInt32) :: st)) P) : Rch p e below T (mkF m pc Ls (.int x :: st)) P := by subst hp; exact Rch.st (fun _ q => XT.i2b X.here hx rfl (hb hby hd) rfl q) H
theorem w_dup {pc' : Nat} {v : Value} (X : Stand p l e R s m args below meth c T locs cells slots) (hx : p.tables.exec = Jvm.exec) (hby : c.code = b) (hd : decode b pc = .ok (.dup, 1)) (hc : v.category = 1) (hp : pc + 1 = pc') (H : Rch p e below T (mkF m pc' Ls (v :: v :: st)) P) : Rch p e below T (mkF m pc Ls (v :: st)) P := by subst hp; exact Rch.st (fun _ q => XS.dup X.here hx rfl (hb hby hd) rfl hc q) H
theorem w_pop {pc' : Nat} {v : Value} (X : Stand p l e R s m args below meth c T locs cells slots) (hx : p.tables.exec = Jvm.exec) (hby : c.code = b) (hd : decode b pc = .ok (.pop, 1)) (hc : v.category = 1) (hp : pc + 1 = pc') (H : Rch p e below T (mkF m pc' Ls st) P) : Rch p e below T (mkF m pc Ls (v :: st)) P := by subst hp; exact Rch.st (fun _ q => XT.pop X.here hx rfl (hb hby hd) rfl hc q) H
theorem w_iinc {pc' : Nat} {k : Nat} {i : Int} {v : Int32} {w : Int32} (X : Stand p l e R s m args below meth c T locs cells slots) (hx : p.tables.exec = Jvm.exec) (hby : c.code = b) (hd : decode b pc = .ok (.iinc k i, 3)) (hl : Ls[k]? = some (.val (.int v))) (hw : v + Int32.ofInt i = w) (hs : storeLocals Ls k (.int w) = some l') (hp : pc + 3 = pc') (H : Rch p e below T (mkF m pc' l' st) P) : Rch p e below T (mkF m pc Ls st) P := by subst hp hw; exact Rch.st (fun _ q => XS.iinc X.here hx rfl (hb hby hd) hl hs q) H
theorem w_goto {pc' : Nat} {o : Int}  (X : Stand p l e R s m args below meth c T locs cells slots) (hx : p.tables.exec = Jvm.exec) (hby : c.code = b) (hd : decode b pc = .ok (.goto o, 3)) (ho : 0 ≤ (pc : Int) + o ∧ ((pc : Int) + o).toNat = pc') (H : Rch p e below T (mkF m pc' Ls st) P) : Rch p e below T (mkF m pc Ls st) P := Rch.st (fun _ q => XS.goto X.here hx rfl (pc0 := pc) rfl (hb hby hd)  ho.1 ho.2 q) H
theorem w_ifYes {pc' : Nat} {o : Int} {cd : ClassFile.Cond} {x : Int32} (X : Stand p l e R s m args below meth c T locs cells slots) (hx : p.tables.exec = Jvm.exec) (hby : c.code = b) (hd : decode b pc = .ok (.ifCond cd o, 3)) (hc : ifCond.holds cd x = true) (ho : 0 ≤ (pc : Int) + o ∧ ((pc : Int) + o).toNat = pc') (H : Rch p e below T (mkF m pc' Ls st) P) : Rch p e below T (mkF m pc Ls (.int x :: st)) P := Rch.st (fun _ q => XS.ifYes X.here hx rfl (pc0 := pc) rfl (hb hby hd) rfl hc ho.1 ho.2 q) H
theorem w_icmpYes {pc' : Nat} {o : Int} {cd : ClassFile.Cond} {x y : Int32} (X : Stand p l e R s m args below meth c T locs cells slots) (hx : p.tables.exec = Jvm.exec) (hby : c.code = b) (hd : decode b pc = .ok (.if_icmp cd o, 3)) (hc : if_icmp.holds cd x y = true) (ho : 0 ≤ (pc : Int) + o ∧ ((pc : Int) + o).toNat = pc') (H : Rch p e below T (mkF m pc' Ls st) P) : Rch p e below T (mkF m pc Ls (.int y :: .int x :: st)) P := Rch.st (fun _ q => XS.icmpYes X.here hx rfl (pc0 := pc) rfl (hb hby hd) rfl hc ho.1 ho.2 q) H
theorem w_acmpYes {pc' : Nat} {o : Int} {cd : ClassFile.ACond} {x y : Value} (X : Stand p l e R s m args below meth c T locs cells slots) (hx : p.tables.exec = Jvm.exec) (hby : c.code = b) (hd : decode b pc = .ok (.if_acmp cd o, 3)) (h1 : x.isRef = true) (h2 : y.isRef = true) (hc : XT.acmp cd x y = true) (ho : 0 ≤ (pc : Int) + o ∧ ((pc : Int) + o).toNat = pc') (H : Rch p e below T (mkF m pc' Ls st) P) : Rch p e below T (mkF m pc Ls (y :: x :: st)) P := Rch.st (fun _ q => XT.acmpYes X.here hx rfl (pc0 := pc) rfl (hb hby hd) rfl h1 h2 hc ho.1 ho.2 q) H
theorem w_nullYes {pc' : Nat} {o : Int} {v : Value} (X : Stand p l e R s m args below meth c T locs cells slots) (hx : p.tables.exec = Jvm.exec) (hby : c.code = b) (hd : decode b pc = .ok (.ifnull o, 3)) (hv : v = .null) (ho : 0 ≤ (pc : Int) + o ∧ ((pc : Int) + o).toNat = pc') (H : Rch p e below T (mkF m pc' Ls st) P) : Rch p e below T (mkF m pc Ls (v :: st)) P := Rch.st (fun _ q => XT.nullYes X.here hx rfl (pc0 := pc) rfl (hb hby hd) rfl hv ho.1 ho.2 q) H
theorem w_nonnullYes {pc' : Nat} {o : Int} {v : Value} (X : Stand p l e R s m args below meth c T locs cells slots) (hx : p.tables.exec = Jvm.exec) (hby : c.code = b) (hd : decode b pc = .ok (.ifnonnull o, 3)) (h1 : v.isRef = true) (hv : ¬ v = .null) (ho : 0 ≤ (pc : Int) + o ∧ ((pc : Int) + o).toNat = pc') (H : Rch p e below T (mkF m pc' Ls st) P) : Rch p e below T (mkF m pc Ls (v :: st)) P := Rch.st (fun _ q => XT.nonnullYes X.here hx rfl (pc0 := pc) rfl (hb hby hd) rfl h1 hv ho.1 ho.2 q) H
theorem w_ifNo {pc' : Nat} {o : Int} {cd : ClassFile.Cond} {x : Int32} (X : Stand p l e R s m args below meth c T locs cells slots) (hx : p.tables.exec = Jvm.exec) (hby : c.code = b) (hd : decode b pc = .ok (.ifCond cd o, 3)) (hc : ifCond.holds cd x = false) (hp : pc + 3 = pc') (H : Rch p e below T (mkF m pc' Ls st) P) : Rch p e below T (mkF m pc Ls (.int x :: st)) P := by subst hp; exact Rch.st (fun _ q => XS.ifNo X.here hx rfl (hb hby hd) rfl hc q) H
theorem w_icmpNo {pc' : Nat} {o : Int} {cd : ClassFile.Cond} {x y : Int32} (X : Stand p l e R s m args below meth c T locs cells slots) (hx : p.tables.exec = Jvm.exec) (hby : c.code = b) (hd : decode b pc = .ok (.if_icmp cd o, 3)) (hc : if_icmp.holds cd x y = false) (hp : pc + 3 = pc') (H : Rch p e below T (mkF m pc' Ls st) P) : Rch p e below T (mkF m pc Ls (.int y :: .int x :: st)) P := by subst hp; exact Rch.st (fun _ q => XS.icmpNo X.here hx rfl (hb hby hd) rfl hc q) H
theorem w_acmpNo {pc' : Nat} {o : Int} {cd : ClassFile.ACond} {x y : Value} (X : Stand p l e R s m args below meth c T locs cells slots) (hx : p.tables.exec = Jvm.exec) (hby : c.code = b) (hd : decode b pc = .ok (.if_acmp cd o, 3)) (h1 : x.isRef = true) (h2 : y.isRef = true) (hc : XT.acmp cd x y = false) (hp : pc + 3 = pc') (H : Rch p e below T (mkF m pc' Ls st) P) : Rch p e below T (mkF m pc Ls (y :: x :: st)) P := by subst hp; exact Rch.st (fun _ q => XT.acmpNo X.here hx rfl (hb hby hd) rfl h1 h2 hc q) H
theorem w_nullNo {pc' : Nat} {o : Int} {v : Value} (X : Stand p l e R s m args below meth c T locs cells slots) (hx : p.tables.exec = Jvm.exec) (hby : c.code = b) (hd : decode b pc = .ok (.ifnull o, 3)) (h1 : v.isRef = true) (hv : ¬ v = .null) (hp : pc + 3 = pc') (H : Rch p e below T (mkF m pc' Ls st) P) : Rch p e below T (mkF m pc Ls (v :: st)) P := by subst hp; exact Rch.st (fun _ q => XT.nullNo X.here hx rfl (hb hby hd) rfl h1 hv q) H
theorem w_nonnullNo {pc' : Nat} {o : Int} {v : Value} (X : Stand p l e R s m args below meth c T locs cells slots) (hx : p.tables.exec = Jvm.exec) (hby : c.code = b) (hd : decode b pc = .ok (.ifnonnull o, 3)) (hv : v = .null) (hp : pc + 3 = pc') (H : Rch p e below T (mkF m pc' Ls st) P) : Rch p e below T (mkF m pc Ls (v :: st)) P := by subst hp; exact Rch.st (fun _ q => XT.nonnullNo X.here hx rfl (hb hby hd) rfl hv q) H
end OwnSteps
section OwnWide
variable {p : Program} {l : Launch} {e : Env} {R : Room} {s : State} {m : MethodId} {args : Array Value} {below : List Frame} {meth : Method} {c : Code} {T Z : State} {locs : List Loc} {cells slots : Nat} {vm1 : Vm} {Ts Ts' : List String} {a0 : Array Value} {h : Heap}
/-- a return under the wide frame -/
def FinW (s : State) (Q : Option Value → Heap → Vm → List Loc → Prop) (K N : Nat) (o : Outcome) (U : State) : Prop := ∃ v L, o = .returned v ∧ Q v U.heap U.vm L ∧ ReturnedEndW s o U L K N
theorem Rch.retVW (X : Stand p l e R (s.setVm vm1) m args below meth c T locs cells slots) (hx : p.tables.exec = Jvm.exec) {k0 : Nat} (hS : s.Since vm1 k0) (hk0 : k0 ≤ T.heap.size) {pc : Nat} {Ls : Array Slot} {w : Value} {t : FieldType} {i : Instr} {rest : List Value} {Q : Option Value → Heap → Vm → List Loc → Prop} {K N : Nat} (hret : meth.sig.returnType = some t) (hn : narrow t w = w)
    (hi : (i = .ireturn ∧ (t = .int ∨ t = .boolean ∨ t = .byte ∨ t = .char ∨ t = .short) ∧ ∃ z, w = .int z) ∨ (i = .lreturn ∧ t = .long ∧ ∃ z, w = .long z) ∨ (i = .dreturn ∧ t = .double ∧ ∃ z, w = .double z) ∨ (i = .freturn ∧ t = .float ∧ ∃ z, w = .float z) ∨ (i = .areturn ∧ t.isReference = true ∧ w.isRef = true))
    (hd : decode c.code pc = .ok (i, 1)) (hq : Q (some w) T.heap T.vm locs) (hk : cells ≤ K) (hs : slots ≤ N) (hlocks : meth.locks = false := by first | assumption | exact BodyLoose.notSynchronized (by assumption) | exact Body.notSynchronized (by assumption)) : Rch p e below T (mkF m pc Ls (w :: rest)) (FinW s Q K N) := by
  obtain ⟨fs, hr, hrun, hended, h1, h2, h3, h4⟩ := X.leaveW hS hk0 (v := some w) (fun h => by rw [hret] at h; cases h) hlocks
  exact ⟨_, _, retOut X hx hret hn hi hd hr, hrun, hended, _, _, rfl, hq, h1, h2, h3, h4.mono hk hs⟩
theorem Rch.ret0W (X : Stand p l e R (s.setVm vm1) m args below meth c T locs cells slots) (hx : p.tables.exec = Jvm.exec) {k0 : Nat} (hS : s.Since vm1 k0) (hk0 : k0 ≤ T.heap.size) {pc : Nat} {Ls : Array Slot} {Q : Option Value → Heap → Vm → List Loc → Prop} {K N : Nat} (hret : meth.sig.returnType = none)
    (hd : decode c.code pc = .ok (.return_, 1)) (hq : Q none T.heap T.vm locs) (hk : cells ≤ K) (hs : slots ≤ N) (hlocks : meth.locks = false := by first | assumption | exact BodyLoose.notSynchronized (by assumption) | exact Body.notSynchronized (by assumption)) : Rch p e below T (mkF m pc Ls []) (FinW s Q K N) := by
  obtain ⟨fs, hr, hrun, hended, h1, h2, h3, h4⟩ := X.leaveW hS hk0 (v := none) (fun _ => rfl) hlocks
  exact ⟨_, _, X.returnOut hx hret hd hr, hrun, hended, _, _, rfl, hq, h1, h2, h3, h4.mono hk hs⟩
theorem own_ib {vm : Vm} (I : IB Z s.vm Ts) (hW : s.WarmedH vm) : IB Z vm Ts := by
  obtain ⟨more, h1, h2⟩ := I
  exact ⟨more, by rw [hW.interned_eq]; exact h1, h2⟩
theorem own_ib_mono {vm : Vm} (I : IB Z vm Ts) (hs : ∀ t ∈ Ts, t ∈ Ts') : IB Z vm Ts' := by
  obtain ⟨more, h1, h2⟩ := I
  exact ⟨more, h1, fun q hq => let ⟨t, ht, hd⟩ := h2 q hq; ⟨t, hs t ht, hd⟩⟩
theorem backOfI {y : MethodName} {bytes : ByteArray} {maxL : Nat} {ret : Option FieldType} {rm : Room} {len W : Nat} {as' : Array Value} {Q : Option Value → Heap → Vm → List Loc → Prop}
    (hM : MetFree l y (head1 [Cond.code y bytes maxL ret] rm) (fun a U => a = as' ∧ Z.Warmed39 U.vm ∧ U.heap = h ∧ IB Z U.vm Ts) (fun _ _ _ _ _ => True) (fun _ U o U' => ∃ v L, o = .returned v ∧ Q v U'.heap U'.vm L ∧ ReturnedEndW U o U' L rm.cells rm.slots))
    (hZ : Z.Warmed39 s.vm) (hI : IB Z s.vm Ts) (wc : (Cond.code y bytes maxL ret).before a0 Z = true) (wz : (Cond.initialized y.cls).before a0 Z = true) (hf : rm.frames + 1 ≤ R.frames) (hl : W + (maxL + 11) + rm.locals ≤ R.locals) :
    BackS l R p e below s args y len W (fun A a => a = as' ∧ A.U.heap = h ∧ A.cells + rm.cells ≤ R.cells ∧ A.slots + rm.slots ≤ R.slots)
      (fun A _ v B => ∃ L, Q v B.U.heap B.U.vm L ∧ B.locs = A.locs ++ L ∧ B.cells = A.cells + rm.cells ∧ B.slots = A.slots + rm.slots) :=
  BackS.of_freeW (bytes := bytes) (maxL := maxL) (ret := ret) (E := fun _ _ o t L k n => k = rm.cells ∧ n = rm.slots ∧ ∃ v, o = .returned v ∧ Q v t.heap t.vm L) hM hf hl
    (fun m meth c A a Y hp => have hU : Z.Warmed39 A.U.vm := wtrans hZ Y.warmed
      ⟨by show (Cond.and _ .tt).before a A.U = true; rw [Cond.before_and, mv hU wc]; rfl, mv hU wc, mv hU wz, hp.2.2.1, hp.2.2.2⟩)
    (fun m meth c A a g mk Y hp => ⟨hp.1, wtrans hZ Y.warmed, hp.2.1, own_ib hI Y.warmed⟩) (fun _ _ _ _ _ _ _ _ _ => trivial)
    (fun _ _ _ _ ⟨v, L, h1, h2, h3⟩ => ⟨L, _, _, h3, rfl, rfl, v, h1, h2⟩)
    (fun m meth c A a g mk v t L k n Y hp _ _ ⟨e1, e2, v', e3, e4⟩ => by cases e3; subst e1 e2; exact ⟨L, e4, rfl, rfl, rfl⟩)
theorem backOfV {PV : Vm → Prop} {y : MethodName} {bytes : ByteArray} {maxL : Nat} {ret : Option FieldType} {rm : Room} {len W : Nat} {as' : Array Value} {Q : Option Value → Heap → Vm → List Loc → Prop}
    (hM : MetFree l y (head1 [Cond.code y bytes maxL ret] rm) (fun a U => a = as' ∧ Z.Warmed39 U.vm ∧ U.heap = h ∧ PV U.vm) (fun _ _ _ _ _ => True) (fun _ U o U' => ∃ v L, o = .returned v ∧ Q v U'.heap U'.vm L ∧ ReturnedEndW U o U' L rm.cells rm.slots))
    (hZ : Z.Warmed39 s.vm) (hI : ∀ vm, s.WarmedH vm → PV vm) (wc : (Cond.code y bytes maxL ret).before a0 Z = true) (wz : (Cond.initialized y.cls).before a0 Z = true) (hf : rm.frames + 1 ≤ R.frames) (hl : W + (maxL + 11) + rm.locals ≤ R.locals) :
    BackS l R p e below s args y len W (fun A a => a = as' ∧ A.U.heap = h ∧ A.cells + rm.cells ≤ R.cells ∧ A.slots + rm.slots ≤ R.slots)
      (fun A _ v B => ∃ L, Q v B.U.heap B.U.vm L ∧ B.locs = A.locs ++ L ∧ B.cells = A.cells + rm.cells ∧ B.slots = A.slots + rm.slots) :=
  BackS.of_freeW (bytes := bytes) (maxL := maxL) (ret := ret) (E := fun _ _ o t L k n => k = rm.cells ∧ n = rm.slots ∧ ∃ v, o = .returned v ∧ Q v t.heap t.vm L) hM hf hl
    (fun m meth c A a Y hp => have hU : Z.Warmed39 A.U.vm := wtrans hZ Y.warmed
      ⟨by show (Cond.and _ .tt).before a A.U = true; rw [Cond.before_and, mv hU wc]; rfl, mv hU wc, mv hU wz, hp.2.2.1, hp.2.2.2⟩)
    (fun m meth c A a g mk Y hp => ⟨hp.1, wtrans hZ Y.warmed, hp.2.1, hI _ Y.warmed⟩) (fun _ _ _ _ _ _ _ _ _ => trivial)
    (fun _ _ _ _ ⟨v, L, h1, h2, h3⟩ => ⟨L, _, _, h3, rfl, rfl, v, h1, h2⟩)
    (fun m meth c A a g mk v t L k n Y hp _ _ ⟨e1, e2, v', e3, e4⟩ => by cases e3; subst e1 e2; exact ⟨L, e4, rfl, rfl, rfl⟩)
/-- a booked literal stays booked, said of the start's state -/
theorem own_lit {own : String} {index : Nat} {a : Addr} {vm vm' : Vm} (L : Lit (Z.setVm vm) own index a) (hW : (s.setVm vm).Warmed39 vm') : Lit (Z.setVm vm') own index a := Lit.stays (s := s) (vm0 := vm) (vm1 := vm') L hW
end OwnWide
theorem nlt {a b c : Nat} (h : a < b) (k : b ≤ c) : a ≠ c := Nat.ne_of_lt (Nat.lt_of_lt_of_le h k)
theorem wi {Z : State} {a0 : Array Value} (hw : ∀ d ∈ tables_1, d.before a0 Z = true) (i : Nat) {d : Jvm.Cond} (h : tables_1[i]? = some d) : d.before a0 Z = true := hw _ (List.mem_of_getElem? h)
abbrev vI (x : Int32) : Slot := .val (.int x)
abbrev vR (a : Addr) : Slot := .val (.ref a)
abbrev vN : Slot := .val .null
abbrev U : Slot := .unset
abbrev Rm (f c s l : Nat) : Room := { frames := f, cells := c, slots := s, locals := l }
abbrev MetN (l : Launch) (Z : State) (y : MethodName) (code : ByteArray) (n : Nat) (ret : Option FieldType) (ws : List Jvm.Cond) (rm : Room) (as : Array Value) (h0 : Heap) (Q : Option Value → Heap → List Loc → Prop) : Prop :=
  MetFree l y (head1 (Jvm.Cond.code y code n ret :: ws) rm) (fun a U => a = as ∧ Z.Warmed39 U.vm ∧ U.heap = h0) (fun _ _ _ _ _ => True) (fun _ U o U' => ∃ v L, o = .returned v ∧ Q v U'.heap L ∧ FrameEnd U o U' L rm.cells rm.slots)
abbrev MetW (l : Launch) (Z : State) (y : MethodName) (code : ByteArray) (n : Nat) (ret : Option FieldType) (ws : List Jvm.Cond) (rm : Room) (as : Array Value) (h0 : Heap) (PV : Vm → Prop) (Q : Option Value → Heap → Vm → List Loc → Prop) : Prop :=
  MetFree l y (head1 (Jvm.Cond.code y code n ret :: ws) rm) (fun a U => a = as ∧ Z.Warmed39 U.vm ∧ U.heap = h0 ∧ PV U.vm) (fun _ _ _ _ _ => True) (fun _ U o U' => ∃ v L, o = .returned v ∧ Q v U'.heap U'.vm L ∧ ReturnedEndW U o U' L rm.cells rm.slots)
abbrev y_0 : MethodName := ⟨"java/util/function/Function", "apply", "(Ljava/lang/Object;)Ljava/lang/Object;"⟩
abbrev y_1 : MethodName := ⟨"com/example/mandoline/mandoline/Variable", "lambda$addField$0", "(Lcom/example/mandoline/mandoline/Place$Field;Ljava/lang/String;)Lcom/example/mandoline/mandoline/Variable;"⟩
abbrev y_2 : MethodName := ⟨"java/lang/String", "coder", "()B"⟩
abbrev y_3 : MethodName := ⟨"java/lang/String", "length", "()I"⟩
abbrev y_4 : MethodName := ⟨"java/lang/StringUTF16", "coderFromArrayLen", "([BI)B"⟩
abbrev y_5 : MethodName := ⟨"java/lang/String", "isLatin1", "()Z"⟩
abbrev y_6 : MethodName := ⟨"java/lang/Math", "min", "(II)I"⟩
abbrev y_7 : MethodName := ⟨"java/util/Arrays", "checkLength", "(II)V"⟩
abbrev y_8 : MethodName := ⟨"java/util/Arrays", "copyOfRangeByte", "([BII)[B"⟩
abbrev y_9 : MethodName := ⟨"java/util/Arrays", "copyOfRange", "([BII)[B"⟩
abbrev y_10 : MethodName := ⟨"java/lang/AbstractStringBuilder", "<init>", "(I)V"⟩
abbrev y_11 : MethodName := ⟨"java/lang/StringBuilder", "<init>", "()V"⟩
abbrev y_12 : MethodName := ⟨"java/lang/AbstractStringBuilder", "ensureCapacityInternal", "(I)V"⟩
abbrev y_13 : MethodName := ⟨"java/lang/AbstractStringBuilder", "inflateIfNeededFor", "(Ljava/lang/String;)V"⟩
abbrev y_14 : MethodName := ⟨"java/lang/String", "getBytes", "([BIB)V"⟩
abbrev y_15 : MethodName := ⟨"java/lang/AbstractStringBuilder", "putStringAt", "(ILjava/lang/String;)V"⟩
abbrev y_16 : MethodName := ⟨"java/lang/AbstractStringBuilder", "append", "(Ljava/lang/String;)Ljava/lang/AbstractStringBuilder;"⟩
abbrev y_17 : MethodName := ⟨"java/lang/StringBuilder", "append", "(Ljava/lang/String;)Ljava/lang/StringBuilder;"⟩
abbrev y_18 : MethodName := ⟨"java/lang/AbstractStringBuilder", "getValue", "()[B"⟩
abbrev y_19 : MethodName := ⟨"java/lang/AbstractStringBuilder", "length", "()I"⟩
abbrev y_20 : MethodName := ⟨"java/lang/StringBuilder", "length", "()I"⟩
abbrev y_21 : MethodName := ⟨"java/lang/AbstractStringBuilder", "isLatin1", "()Z"⟩
abbrev y_22 : MethodName := ⟨"java/lang/String", "<init>", "(Ljava/lang/AbstractStringBuilder;Ljava/lang/Void;)V"⟩
abbrev y_23 : MethodName := ⟨"java/lang/String", "<init>", "(Ljava/lang/StringBuilder;)V"⟩
abbrev y_24 : MethodName := ⟨"java/lang/StringBuilder", "toString", "()Ljava/lang/String;"⟩
abbrev y_25 : MethodName := ⟨"java/lang/StringLatin1", "canEncode", "(C)Z"⟩
abbrev y_26 : MethodName := ⟨"java/lang/StringLatin1", "toBytes", "(C)[B"⟩
abbrev y_27 : MethodName := ⟨"java/lang/String", "<init>", "([BB)V"⟩
abbrev y_28 : MethodName := ⟨"java/lang/String", "valueOf", "(C)Ljava/lang/String;"⟩
abbrev y_29 : MethodName := ⟨"java/lang/StringUTF16", "compress", "([CI[BII)I"⟩
abbrev y_30 : MethodName := ⟨"java/lang/StringUTF16", "compress", "([CII)[B"⟩
abbrev y_31 : MethodName := ⟨"java/lang/String", "<init>", "([CIILjava/lang/Void;)V"⟩
abbrev y_32 : MethodName := ⟨"java/lang/String", "<init>", "([C)V"⟩
abbrev y_33 : MethodName := ⟨"java/util/AbstractMap", "<init>", "()V"⟩
abbrev y_34 : MethodName := ⟨"java/util/HashMap", "<init>", "()V"⟩
abbrev y_35 : MethodName := ⟨"java/util/LinkedHashMap", "<init>", "()V"⟩
abbrev y_36 : MethodName := ⟨"java/util/List", "of", "()Ljava/util/List;"⟩
abbrev y_37 : MethodName := ⟨"com/example/mandoline/mandoline/Variable", "<init>", "(Ljava/lang/String;Lcom/example/mandoline/mandoline/ClangNode;Ljava/lang/String;Lcom/example/mandoline/mandoline/Variable;)V"⟩
abbrev y_38 : MethodName := ⟨"java/lang/Record", "<init>", "()V"⟩
abbrev y_39 : MethodName := ⟨"com/example/mandoline/mandoline/Place$Field", "<init>", "(Ljava/lang/String;Ljava/lang/String;)V"⟩
abbrev y_40 : MethodName := ⟨"com/example/mandoline/mandoline/Place$Field", "key", "()Ljava/lang/String;"⟩
abbrev y_41 : MethodName := ⟨"com/example/mandoline/mandoline/Place$Field", "name", "()Ljava/lang/String;"⟩
abbrev y_42 : MethodName := ⟨"java/lang/String", "isEmpty", "()Z"⟩
abbrev y_43 : MethodName := ⟨"java/lang/StringLatin1", "hashCode", "([B)I"⟩
abbrev y_44 : MethodName := ⟨"java/lang/String", "hashCode", "()I"⟩
abbrev y_45 : MethodName := ⟨"java/util/HashMap", "hash", "(Ljava/lang/Object;)I"⟩
abbrev y_46 : MethodName := ⟨"java/lang/Object", "hashCode", "()I"⟩
abbrev y_47 : MethodName := ⟨"java/util/HashMap", "resize", "()[Ljava/util/HashMap$Node;"⟩
abbrev y_48 : MethodName := ⟨"java/util/HashMap$Node", "<init>", "(ILjava/lang/Object;Ljava/lang/Object;Ljava/util/HashMap$Node;)V"⟩
abbrev y_49 : MethodName := ⟨"java/util/LinkedHashMap$Entry", "<init>", "(ILjava/lang/Object;Ljava/lang/Object;Ljava/util/HashMap$Node;)V"⟩
abbrev y_50 : MethodName := ⟨"java/util/LinkedHashMap", "linkNodeAtEnd", "(Ljava/util/LinkedHashMap$Entry;)V"⟩
abbrev y_51 : MethodName := ⟨"java/util/LinkedHashMap", "newNode", "(ILjava/lang/Object;Ljava/lang/Object;Ljava/util/HashMap$Node;)Ljava/util/HashMap$Node;"⟩
abbrev y_52 : MethodName := ⟨"java/util/LinkedHashMap", "removeEldestEntry", "(Ljava/util/Map$Entry;)Z"⟩
abbrev y_53 : MethodName := ⟨"java/util/LinkedHashMap", "afterNodeInsertion", "(Z)V"⟩
abbrev y_54 : MethodName := ⟨"java/util/HashMap", "computeIfAbsent", "(Ljava/lang/Object;Ljava/util/function/Function;)Ljava/lang/Object;"⟩
abbrev y_55 : MethodName := ⟨"java/util/HashMap", "newNode", "(ILjava/lang/Object;Ljava/lang/Object;Ljava/util/HashMap$Node;)Ljava/util/HashMap$Node;"⟩
abbrev y_56 : MethodName := ⟨"java/util/HashMap", "afterNodeInsertion", "(Z)V"⟩
abbrev y_57 : MethodName := ⟨"com/example/mandoline/mandoline/Variable", "addField", "(Lcom/example/mandoline/mandoline/Place$Field;)Lcom/example/mandoline/mandoline/Variable;"⟩
abbrev y_58 : MethodName := ⟨"java/util/Map", "computeIfAbsent", "(Ljava/lang/Object;Ljava/util/function/Function;)Ljava/lang/Object;"⟩
abbrev y_59 : MethodName := ⟨"com/example/mandoline/mandoline/Variable", "<init>", "(Ljava/lang/String;Lcom/example/mandoline/mandoline/ClangNode;)V"⟩
abbrev y_60 : MethodName := ⟨"com/example/mandoline/mandoline/Variable", "declaringStatement", "()Lcom/example/mandoline/mandoline/ClangNode;"⟩
abbrev y_61 : MethodName := ⟨"java/util/AbstractCollection", "<init>", "()V"⟩
abbrev y_62 : MethodName := ⟨"java/util/AbstractList", "<init>", "()V"⟩
abbrev y_63 : MethodName := ⟨"java/util/ArrayList", "<init>", "()V"⟩
abbrev y_64 : MethodName := ⟨"java/util/Collections$UnmodifiableCollection", "<init>", "(Ljava/util/Collection;)V"⟩
abbrev y_65 : MethodName := ⟨"java/util/Collections$UnmodifiableList", "<init>", "(Ljava/util/List;)V"⟩
abbrev y_66 : MethodName := ⟨"java/util/Collections$UnmodifiableRandomAccessList", "<init>", "(Ljava/util/List;)V"⟩
abbrev y_67 : MethodName := ⟨"java/util/Collections", "unmodifiableList", "(Ljava/util/List;)Ljava/util/List;"⟩
abbrev y_68 : MethodName := ⟨"java/util/List", "getClass", "()Ljava/lang/Class;"⟩
abbrev y_69 : MethodName := ⟨"com/example/mandoline/mandoline/ClangNode", "<init>", "(Ljava/lang/String;[Ljava/lang/String;Lcom/example/mandoline/mandoline/ClangLocation;Lcom/example/mandoline/mandoline/ClangLocation;Lcom/example/mandoline/mandoline/ClangLocation;Ljava/util/List;)V"⟩
/-- the class that the rule has made stays made under wider tables -/
theorem own_made {Z : State} {vm' : Vm} (hW : Z.Warmed39 vm') {d c : ClassId} {σ : Lambda.Shape} (h : Lambda.isMade { classPath := fun _ => none } Z.vm d σ c = true) : Lambda.isMade { classPath := fun _ => none } vm' d σ c = true := by
  have hA := hW.alike
  have key : ∀ k : Class, Z.vm.classes[c]? = some k → ∃ k' : Class, vm'.classes[c]? = some k' ∧ k' = { k with resolved := k'.resolved, nestHost := k'.nestHost, nestHostError := k'.nestHostError } ∧ ∀ i r, k.resolved[i]? = some (some r) → k'.resolved[i]? = some (some r) := fun k hk => by
    obtain ⟨k', h1, h2, -, h3, -⟩ := hW.2.2.2 _ _ hk
    exact ⟨k', h1, h2, fun i r q => (h3 i).elim (fun e => e.trans q) fun e => absurd (e.1.symm.trans q) (by simp)⟩
  unfold Lambda.isMade at h ⊢
  cases hd : Z.vm.classes[d]? with
  | none => simp [hd] at h
  | some dk =>
  cases hc : Z.vm.classes[c]? with
  | none => simp [hd, hc] at h
  | some k =>
  obtain ⟨dk', hd', ed⟩ := hA.2.2 _ _ hd
  obtain ⟨k', hc', ek, hr⟩ := key k hc
  have n1 : dk'.name = dk.name := by rw [ed]
  rw [hd', hc']
  rw [hd, hc] at h
  simp only [Option.bind_eq_bind, Option.bind_some, n1, hA.findClass] at h ⊢
  have hcf : k'.cf = k.cf := by rw [ek]
  rw [hcf]
  cases hf : k.cf with
  | none => simp [hf] at h
  | some file =>
  rw [hf] at h
  simp only [Option.bind_some] at h ⊢
  cases hs : σ.file dk.name with
  | none => simp [hs] at h
  | some cf =>
  rw [hs] at h
  simp only [Option.bind_some] at h ⊢
  cases ho : Z.vm.findClass "java/lang/Object" with
  | none => simp [ho] at h
  | some ob =>
  cases hi : Z.vm.findClass σ.iface with
  | none => simp [ho, hi] at h
  | some fc =>
  rw [ho, hi] at h
  simp only [Option.bind_some] at h ⊢
  cases hob : Z.vm.classes[ob]? with
  | none => simp [hob] at h
  | some okc =>
  obtain ⟨okc', hob', eo⟩ := hA.2.2 _ _ hob
  have n2 : okc'.instanceTypes = okc.instanceTypes := by rw [eo]
  rw [hob']
  rw [hob] at h
  simp only [Option.bind_some, n2] at h ⊢
  cases hl : layoutFields cf okc.instanceTypes.size with
  | none => simp [hl] at h
  | some lay =>
  cases hm : layoutMethods cf with
  | none => simp [hl, hm] at h
  | some ms =>
  cases ht : Z.vm.findClass σ.implClass with
  | none => simp [hl, hm, ht] at h
  | some tc =>
  rw [hl, hm, ht] at h
  simp only [Option.bind_some] at h ⊢
  cases htc : Z.vm.classes[tc]? with
  | none => simp [htc] at h
  | some tk =>
  obtain ⟨tk', htc', et⟩ := hA.2.2 _ _ htc
  have n3 : tk'.isInterface = tk.isInterface := by rw [et]; rfl
  rw [htc']
  rw [htc] at h
  simp only [Option.bind_some, n3, Lambda.methodIn_ask_alike hA, Lambda.resolvedOf_alike hA, hA.selectMethod] at h ⊢
  have e1 : ∀ {α : Type} (f : Class → α), (∀ (q : Class) r n1 n2, f { q with resolved := r, nestHost := n1, nestHostError := n2 } = f q) → f k' = f k := fun f hf => by rw [ek]; exact hf _ _ _ _
  rw [e1 (·.name) (fun _ _ _ _ => rfl), e1 (·.kind) (fun _ _ _ _ => rfl), e1 (·.accessFlags) (fun _ _ _ _ => rfl), e1 (·.super) (fun _ _ _ _ => rfl), e1 (·.interfaces) (fun _ _ _ _ => rfl), e1 (·.init) (fun _ _ _ _ => rfl), e1 (·.loader) (fun _ _ _ _ => rfl), e1 (·.hidden) (fun _ _ _ _ => rfl), e1 (·.linked) (fun _ _ _ _ => rfl), e1 (·.callSites) (fun _ _ _ _ => rfl), e1 (·.invokers) (fun _ _ _ _ => rfl), e1 (·.methods) (fun _ _ _ _ => rfl), e1 (·.fields) (fun _ _ _ _ => rfl), e1 (·.instanceTypes) (fun _ _ _ _ => rfl), e1 (·.staticTypes) (fun _ _ _ _ => rfl)]
  revert h
  generalize ((Lambda.resolvedOf { classPath := fun _ => none } Z.vm cf lay.1 c).toList.zipIdx) = Lz
  have ha : ∀ Lx : List (Option Resolved × Nat), (Lx.all fun x => x.1.isNone || decide (k.resolved[x.2]? = some x.1)) = true → (Lx.all fun x => x.1.isNone || decide (k'.resolved[x.2]? = some x.1)) = true := fun Lx q => by
    rw [List.all_eq_true] at q ⊢
    intro y hy
    have z := q y hy
    obtain ⟨x, i⟩ := y
    cases x with
    | none => rfl
    | some r =>
      simp only [Option.isNone_some, Bool.false_or, decide_eq_true_eq] at z ⊢
      exact hr _ _ z
  split
  · split
    · intro h
      simp only [Option.pure_def, Option.getD_some, Bool.and_eq_true] at h ⊢
      exact ⟨⟨h.1.1, ha _ h.1.2⟩, h.2⟩
    · intro h; simp at h
  · intro h; simp at h
/-- the object of a lambda that holds two captured values -/
def Lam (h : Heap) (o : Addr) (cK : ClassId) (va vb : Value) : Prop := ∃ cell : Cell, h[o]? = some cell ∧ cell.cls = cK ∧ cell.vm = .none ∧ cell.slots = #[va, vb]
theorem Lam.lt {h : Heap} {o : Addr} {cK : ClassId} {va vb : Value} (F : Lam h o cK va vb) : o < h.size := by obtain ⟨_, h1, -⟩ := F; exact (Array.getElem?_eq_some_iff.mp h1).1
theorem Lam.ext {h h' : Heap} {o : Addr} {cK : ClassId} {va vb : Value} (F : Lam h o cK va vb) (E : Ext h h') : Lam h' o cK va vb := by obtain ⟨c, h1, r⟩ := F; exact ⟨c, E.2 _ _ h1, r⟩
theorem Lam.other {h h' : Heap} {o a : Addr} {sl : Nat} {v : Value} {cK : ClassId} {va vb : Value} (F : Lam h o cK va vb) (W : Wr h h' a sl v) (q : o ≠ a) : Lam h' o cK va vb := by
  obtain ⟨c, h1, r⟩ := F
  obtain ⟨c', h2, -, -, -, h3, -⟩ := wr_at W h1
  rw [h3 q] at h2
  exact ⟨c, h2, r⟩
theorem Lam.keep {h h' : Heap} {o : Addr} {ws : List Addr} {cK : ClassId} {va vb : Value} (F : Lam h o cK va vb) (K : Keep h h' ws) (q : o ∉ ws) : Lam h' o cK va vb := by obtain ⟨c, h1, r⟩ := F; exact ⟨c, K.2.1 o c h1 q, r⟩
theorem own_neLen {Z : State} {h : Heap} {a b : Addr} {k k' : ClassId} {ty ty' : FieldType} {n n' : Int32} {vs vs' : List Value} {d d' : Value} (A : Arv Z h a k ty n vs d) (B : Arv Z h b k' ty' n' vs' d') (q : n.toNatClampNeg ≠ n'.toNatClampNeg) : a ≠ b := fun e => by
  subst e
  obtain ⟨c, Ar, -, S, -⟩ := A
  obtain ⟨c', Br, -, S', -⟩ := B
  cases Ar.1.symm.trans Br.1
  exact q (S.symm.trans S')
theorem own_nfI {s : State} {args : Array Value} {y : MethodName} {n : Nat} (w : (Cond.instantiable y.cls n).before args s = true) : NotFace s y := fun r0 h0 => by
  obtain ⟨c2, k2, i1, i2, -, i4, -⟩ := Cond.instantiable_spec w
  have e : r0.cls = c2 := Option.some.inj ((findClass_of_methodNamed h0).symm.trans i1)
  exact ⟨k2, by rw [e]; exact i2, by simp only [Bool.or_eq_false_iff] at i4; exact i4.1⟩
theorem own_madeS {Z s : State} {host : String} {σ : Lambda.Shape} {cK : ClassId} (hZ : Z.Warmed39 s.vm) (h : LamKit.Made Z host σ cK) : LamKit.Made s host σ cK := by
  obtain ⟨d, dk, hd, hdn, hmade, hcan⟩ := h
  have hA := hZ.alike
  obtain ⟨dk', hd', ed⟩ := hA.2.2 _ _ hd
  refine ⟨d, dk', hd', by rw [ed]; exact hdn, own_made hZ hmade, ?_⟩
  simp only [State.lambdaCallable, hA.findClass, hA.assignable, hA.superclasses, hA.declaredIn] at hcan ⊢
  exact hcan
def own_clsOK (σ : Lambda.Shape) (host : String) (i : Nat) (name : String) : Bool :=
  match σ.file host with
  | none => false
  | some D =>
    match D.constantPool[i]? with
    | some (.class_ n) => decide (D.constantPool.string? n = some name) && decide (i ≠ D.thisClass)
    | _ => false
theorem own_made_cls {st : Setting} {vm : Vm} {d c x : ClassId} {dk : Class} {σ : Lambda.Shape} {host name : String} {i : Nat} (hok : own_clsOK σ host i name = true) (hd : vm.classes[d]? = some dk) (hname : dk.name = host) (h : Lambda.isMade st vm d σ c = true) (hf : vm.findClass name = some x) : vm.classReady c i x := by
  obtain ⟨dk', k, ok, tk, file, cf, object, iface, toy, lay, methods, target, found, hd', hk, hfile, hcf, -, -, -, -, -, -, -, -, -, -, -, -, -, -, -, -, -, -, hres, -⟩ := Lambda.isMade_spec h
  cases hd.symm.trans hd'
  rw [hname] at hcf
  unfold own_clsOK at hok
  rw [hcf] at hok
  dsimp only at hok
  split at hok
  · rename_i n hi
    simp only [Bool.and_eq_true, decide_eq_true_eq] at hok
    exact ⟨k, hk, hres i _ (Lambda.resolvedOf_class hi hok.2 hok.1 hf)⟩
  · cases hok
section OwnLam
variable {p : Program} {l : Launch} {e : Env} {R : Room} {s : State} {m : MethodId} {args : Array Value} {below : List Frame} {meth : Method} {c : Code} {T Z : State} {locs : List Loc} {cells slots : Nat} {a0 : Array Value} {h : Heap}
/-- invokedynamic at a site that captures two values: the new object holds them; its class is the one that the start's tables have made -/
theorem own_mkLam (X : Stand p l e R s m args below meth c T locs cells slots) (hx : p.tables.exec = Jvm.exec) (hZ : Z.Warmed39 s.vm) {x : MethodName} {pc index fi : Nat} {σ : Lambda.Shape} (hnamed : s.methodNamed? x = some m)
    (w : (Cond.lambdaSite x pc index σ).before a0 Z = true) {t1 t2 : FieldType} (hcap : σ.captured = [t1, t2]) (hok : LamKit.capOK σ x.cls fi 0 = true) (wO : (Cond.instantiable "java/lang/Object" 0).before a0 Z = true) (eT : T.heap = h)
    {g : JFrame} (hg : g.method = m) (hpc : g.pc = pc) (hsize : g.locals.size = c.maxLocals) (hdg : decode c.code g.pc = .ok (.invokedynamic index, 5)) {va vb : Value} {rest : List Value} (hstack : g.stack = vb :: va :: rest)
    (h1 : narrow t1 va = va ∧ fits t1 va = true) (h2 : narrow t2 vb = vb ∧ fits t2 vb = true) (hwords : 2 * g.monitorRoom + (g.stack.map fun v => v.category).sum + 3072 ≤ R.locals) (hcells : cells + 1 ≤ R.cells) (hslots : slots + 2 ≤ R.slots) :
    ∃ (T' : State) (h' : Heap) (cK : ClassId), LamKit.Made Z x.cls σ cK ∧ Stand p l e R s m args below meth c T' locs (cells + 1) (slots + 2) ∧ T'.heap = h' ∧ Ext h h' ∧ Lam h' h.size cK va vb ∧
      ∀ target, Steps p.tables e below (T'.setTop { g with pc := g.pc + 5, stack := .ref h.size :: rest }) target → Steps p.tables e below (T.setTop g) target := by
  obtain ⟨cK, one, hat⟩ := Cond.lambdaSite_spec w
  obtain ⟨mD, kD, cfD, i0, p0, lk, hmD, hkD, hcfD, hsh, hin, hfind, hmade, hcan, hl⟩ := State.lambdaAt?_spec hat
  have hA := hZ.alike
  obtain ⟨kN, hkN, hnameD⟩ := className_of_methodNamed hmD
  cases hkD.symm.trans hkN
  have hm' : s.methodNamed? x = some mD := by
    have z := State.methodNamed?_setVm (s := Z) hA x
    rw [hmD] at z; exact z
  cases hnamed.symm.trans hm'
  obtain ⟨k', hk', ek⟩ := hA.2.2 _ _ hkD
  rcases hl with ⟨_, _, -, -, hc0, -⟩ | ⟨rfl, -, -⟩
  · rw [hcap] at hc0; cases hc0
  · obtain ⟨b, nt, desc, site, s1, s2, s3, s4⟩ := Lambda.shapeOf?_site hsh
    obtain ⟨kc, f, hkc, hkind, hty, -⟩ := LamKit.made_cap hok hk' (by rw [ek]; exact hnameD) (own_made hZ hmade) (LamKit.noFields (mvT (args := args) hZ wO) (State.WarmedH.refl s))
    have hz : ((kc.instanceTypes.toList.zip [va, vb]).map fun (t, v) => narrow t v) = [va, vb] := by
      rw [hty, hcap]
      show [narrow t1 va, narrow t2 vb] = [va, vb]
      rw [h1.1, h2.1]
    have hw : e.platform.lambdaLinkWords = 3072 := by rw [X.admits.platform]
    have q := X.lambdaMakes hx hg hsize hdg (vals := [va, vb]) (rest := rest) hk' (by rw [hpc, ek]; exact hfind) (by rw [ek]; exact hcfD) s1 s2 (parseLong_of_parse s3) (by rw [s4, hcap]; rfl) hstack hkc (by rw [hw]; exact hwords) hcells (by rw [hz]; exact hslots)
      (fun i v hv => by
        rw [hz] at hv
        have hi : i = 0 ∧ v = va ∨ i = 1 ∧ v = vb := by
          match i, hv with
          | 0, hv => exact Or.inl ⟨rfl, (by simpa using hv.symm)⟩
          | 1, hv => exact Or.inr ⟨rfl, (by simpa using hv.symm)⟩
          | n + 2, hv => simp at hv
        rcases hi with ⟨rfl, rfl⟩ | ⟨rfl, rfl⟩
        · simp [State.fitsSlot, State.slotType?, hkc, hkind, hty, hcap, h1.2]
        · simp [State.fitsSlot, State.slotType?, hkc, hkind, hty, hcap, h2.2])
    rw [hz] at q
    subst eT
    exact ⟨_, _, cK, ⟨_, kD, hkD, hnameD, hmade, hcan⟩, q.1, rfl, ext_of fun a q => Array.getElem?_push_lt q |>.trans (Array.getElem?_eq_getElem q).symm, ⟨({ cls := cK, slots := [va, vb].toArray, vm := .none } : Cell), by show (T.heap.push _)[T.heap.size]? = _; simp, rfl, rfl, rfl⟩, q.2⟩
/-- ldc of a float -/
theorem own_ldcF {g : JFrame} {target : State} (X : Stand p l e R s m args below meth c T locs cells slots) (hx : p.tables.exec = Jvm.exec) {own : String} {index : Nat} {b : UInt32} (hown : s.vm.findClass own = some m.cls) (hconst : (Cond.constantFloat own index b).before args s = true) (hg : g.method = m) (hd : decode c.code g.pc = .ok (.ldc index, 2))
    (hr : Steps p.tables e below (T.setTop { g with pc := g.pc + 2, stack := .float b :: g.stack }) target) : Steps p.tables e below (T.setTop g) target := X.ldcFloatC hx hown hconst hg hd target hr
/-- lookupswitch, the value not listed -/
theorem own_lswM {g : JFrame} {target : State} (X : Stand p l e R s m args below meth c T locs cells slots) (hx : p.tables.exec = Jvm.exec) (hg : g.method = m) {pc0 pc' : Nat} (hpc : g.pc = pc0) {k : Int32} {rest : List Value} (hs : g.stack = .int k :: rest) {df : Int} {ps : Array (Int × Int)} {len : Nat} (hd : decode c.code g.pc = .ok (.lookupswitch df ps, len))
    (h1 : (ps.toList.zip (ps.toList.drop 1)).all (fun (a, next) => a.1 < next.1) = true) (h2 : ps.find? (·.1 == k.toInt) = none) (h3 : 0 ≤ (pc0 : Int) + df) (h4 : ((pc0 : Int) + df).toNat = pc') (hr : Steps p.tables e below (T.setTop { g with pc := pc', stack := rest }) target) : Steps p.tables e below (T.setTop g) target := by
  subst hpc h4
  exact X.lookupswitchMiss hx hg hs hd h1 h2 h3 _ hr
/-- lookupswitch, the value listed -/
theorem own_lswH {g : JFrame} {target : State} (X : Stand p l e R s m args below meth c T locs cells slots) (hx : p.tables.exec = Jvm.exec) (hg : g.method = m) {pc0 pc' : Nat} (hpc : g.pc = pc0) {k : Int32} {rest : List Value} (hs : g.stack = .int k :: rest) {df : Int} {ps : Array (Int × Int)} {len : Nat} (hd : decode c.code g.pc = .ok (.lookupswitch df ps, len))
    (h1 : (ps.toList.zip (ps.toList.drop 1)).all (fun (a, next) => a.1 < next.1) = true) {a off : Int} (h2 : ps.find? (·.1 == k.toInt) = some (a, off)) (h3 : 0 ≤ (pc0 : Int) + off) (h4 : ((pc0 : Int) + off).toNat = pc') (hr : Steps p.tables e below (T.setTop { g with pc := pc', stack := rest }) target) : Steps p.tables e below (T.setTop g) target := by
  subst hpc h4
  exact X.lookupswitchHit hx hg hs hd h1 h2 h3 _ hr
/-- aaload -/
theorem own_ldA {C : String} {a : Addr} {k : ClassId} {n j : Int32} {vs : List Value} {d v : Value} {g : JFrame} {rest : List Value} {target : State} (X : Stand p l e R s m args below meth c T locs cells slots) (hx : p.tables.exec = Jvm.exec) (hZ : Z.Warmed39 s.vm) (eT : T.heap = h) (V : Arv Z h a k (.object C) n vs d) (hj : ¬ j < 0 ∧ j < n) (hv : vs.getD j.toNatClampNeg d = v) (hg : g.method = m) (hs : g.stack = .int j :: .ref a :: rest) (hd : decode c.code g.pc = .ok (.aaload, 1))
    (hr : Steps p.tables e below (T.setTop { g with pc := g.pc + 1, stack := v :: rest }) target) : Steps p.tables e below (T.setTop g) target := by
  obtain ⟨cl, Ar, q, S, M, H, G⟩ := V
  exact X.aaload hx (by rw [eT]; exact Ar.1) (State.isArrayOf_alike hZ.alike Ar.2.1) rfl Ar.2.2 (inb_of S hj) (H.at (inb_of S hj) hv) hg hs hd _ hr
/-- aastore -/
theorem own_stA {C : String} {a y : Addr} {k : ClassId} {n j : Int32} {vs : List Value} {d : Value} {g : JFrame} {rest : List Value} (X : Stand p l e R s m args below meth c T locs cells slots) (hx : p.tables.exec = Jvm.exec) (hZ : Z.Warmed39 s.vm) (eT : T.heap = h) (V : Arv Z h a k (.object C) n vs d) (O : Ovr Z k C) (I : Ins Z h y C true) (hj : ¬ j < 0 ∧ j < n) (hg : g.method = m) (hs : g.stack = .ref y :: .int j :: .ref a :: rest) (hd : decode c.code g.pc = .ok (.aastore, 1)) :
    ∃ T' h', Stand p l e R s m args below meth c T' (locs ++ [⟨a, j.toNatClampNeg⟩]) cells slots ∧ T'.heap = h' ∧ Wr h h' a j.toNatClampNeg (.ref y) ∧ ∀ target, Steps p.tables e below (T'.setTop { g with pc := g.pc + 1, stack := rest }) target → Steps p.tables e below (T.setTop g) target := by
  obtain ⟨cl, Ar, q, S, M, H, G⟩ := V
  subst q
  exact stR X hx hZ eT Ar (inb_of S hj) rfl (Sto.of Ar O I) hg hs hd
def own_fc : ByteArray := ⟨#[0x2a, 0xb4, 0x00, 0x11, 0x2a, 0xb4, 0x00, 0x13, 0x2b, 0xc0, 0x00, 0x17, 0xb6, 0x00, 0x1d, 0xb0]⟩
theorem fc0 : decode own_fc 0 = .ok (.aload_n 0, 1) := by decide +kernel
theorem fc1 : decode own_fc 1 = .ok (.getfield 17, 3) := by decide +kernel
theorem fc4 : decode own_fc 4 = .ok (.aload_n 0, 1) := by decide +kernel
theorem fc5 : decode own_fc 5 = .ok (.getfield 19, 3) := by decide +kernel
theorem fc8 : decode own_fc 8 = .ok (.aload_n 1, 1) := by decide +kernel
theorem fc9 : decode own_fc 9 = .ok (.checkcast 23, 3) := by decide +kernel
theorem fc12 : decode own_fc 12 = .ok (.invokevirtual 29, 3) := by decide +kernel
theorem fc15 : decode own_fc 15 = .ok (.areturn, 1) := by decide +kernel
/-- the forwarder runs: two captured values and one argument behind a cast, a private instance method as the target; under the wide frame -/
theorem own_fwd (X : Stand p l e R s m args below meth c T locs cells slots) (hx : p.tables.exec = Jvm.exec) (hZ : Z.Warmed39 s.vm) {host kn : String} {y : MethodName} {σ : Lambda.Shape} {cK : ClassId} (hmd : LamKit.Made Z host σ cK)
    (hok : LamKit.fwdOK σ host own_fc 2 (some (.object "java/lang/Object")) 29 25 = true) (hc0 : LamKit.capOK σ host 17 0 = true) (hc1 : LamKit.capOK σ host 19 1 = true) (hcl : own_clsOK σ host 23 kn = true)
    (wO : (Cond.instantiable "java/lang/Object" 0).before a0 Z = true) {nY : Nat} (wY : (Cond.instantiable y.cls nY).before a0 Z = true) (wi : (Cond.instanceMethod y).before a0 Z = true) (wp : (Cond.privateMethod y).before a0 Z = true)
    {bytes : ByteArray} {maxL : Nat} {ret : Option FieldType} (wc : (Cond.code y bytes maxL ret).before a0 Z = true) (wz : (Cond.initialized y.cls).before a0 Z = true)
    (hy : y.cls = σ.implClass ∧ y.name = σ.implName ∧ y.desc = σ.implDesc.toString) (hpoly : y.cls ≠ "java/lang/invoke/MethodHandle" ∧ y.cls ≠ "java/lang/invoke/VarHandle")
    (eT : T.heap = h) {fo a f k : Addr} {C : String} (F : Lam h fo cK (.ref a) (.ref f)) (Ea : Exa Z h a C) (Ek : Exa Z h k kn)
    {PV : Vm → Prop} {rm : Room} {Q : Option Value → Heap → Vm → List Loc → Prop}
    (hM : MetFree l y (head1 [Cond.code y bytes maxL ret] rm) (fun as U => as = #[.ref a, .ref f, .ref k] ∧ Z.Warmed39 U.vm ∧ U.heap = h ∧ PV U.vm) (fun _ _ _ _ _ => True) (fun _ U o U' => ∃ v L, o = .returned v ∧ Q v U'.heap U'.vm L ∧ ReturnedEndW U o U' L rm.cells rm.slots))
    (hI : ∀ vm, s.WarmedH vm → PV vm) (hout : ∀ v h vm L, Q v h vm L → ∃ w, v = some w ∧ w.isRef = true) (hpar : ∀ sig, parseMethodDescriptor y.desc = some sig → ([.ref f, .ref k] : List Value).length = sig.parameters.length)
    {g : JFrame} (hg : g.method = m) (hsize : g.locals.size = c.maxLocals) {ig : Instr} {len : Nat} (hdg : decode c.code g.pc = .ok (ig, len))
    (hfr : rm.frames + 2 ≤ R.frames) (hlo : 2 * g.monitorRoom + (g.stack.map fun v => v.category).sum + (2 + 11) + ((maxL + 11) + rm.locals) ≤ R.locals) (hcells : cells + rm.cells ≤ R.cells) (hslots : slots + rm.slots ≤ R.slots) :
    ∃ (v : Option Value) (B : Pt), Stand p l e R (s.setVm B.U.vm) m args below meth c B.U B.locs B.cells B.slots ∧ s.Since B.U.vm B.U.heap.size ∧ T.heap.size ≤ B.U.heap.size ∧ (∃ L, Q v B.U.heap B.U.vm L ∧ B.locs = locs ++ L ∧ B.cells = cells + rm.cells ∧ B.slots = slots + rm.slots) ∧
      ∀ acts, Steps p.tables e below (doInvoke e (T.setTop g) acts ⟨cK, 1⟩ #[.ref fo, .ref k]).1 (B.U.setTop { g with pc := g.pc + len, stack := v.toList ++ g.stack }) := by
  have hZT : Z.Warmed39 T.vm := wtrans hZ X.warmed
  have hmT := own_madeS (s := T) hZT hmd
  obtain ⟨d, dk, hd, hdn, hmade, -⟩ := hmT
  obtain ⟨y1, y2, y3⟩ := hy
  obtain ⟨kK, tk, file, methk, ck, toy, t, nt, hkK, hpn, hfile, hidx, hnt, hmk, hck, hbytes, hml, hlk, -, hretk, htoy, htk, hlook, hready, hclsR⟩ := LamKit.made_static hok hd hdn hmade
  obtain ⟨mT, methT, hmTn, hmethT, hstT, habT⟩ := Cond.instanceMethod_spec (mvT (s := T) (args := args) hZT wi)
  obtain ⟨methT', cT', hmethT', -, -, -, -, -, -, hsigT⟩ := Cond.code_spec hmTn (mvT (s := T) (args := args) hZT wc)
  cases hmethT.symm.trans hmethT'
  have hfT0 : T.vm.findClass y.cls = some mT.cls := findClass_of_methodNamed hmTn
  have hfT : T.vm.findClass σ.implClass = some mT.cls := by rw [← y1]; exact hfT0
  cases htoy.symm.trans hfT
  have ht : t = mT := by
    have h1 : T.methodFound? y.cls y.name y.desc = some mT := State.methodFound?_of_named hmTn hpoly
    rw [y1, y2, y3] at h1
    simp only [State.methodFound?, hfT, htk, Option.bind_eq_bind, Option.bind_some] at h1
    rw [hlook] at h1
    exact Option.some.inj h1
  subst ht
  obtain ⟨kT, hkT, hnameT⟩ := className_of_methodNamed hmTn
  cases htk.symm.trans hkT
  have hsp : signaturePolymorphic tk methT = false := by simp [signaturePolymorphic, hnameT, hpoly.1, hpoly.2]
  obtain ⟨cY, kY, i1, i2, -, i4, -⟩ := Cond.instantiable_spec (mvT (s := T) (args := args) hZT wY)
  have hcY : cY = t.cls := Option.some.inj (i1.symm.trans hfT0)
  subst hcY
  cases htk.symm.trans i2
  have hitf : tk.isInterface = false := by simp only [Bool.or_eq_false_iff] at i4; exact i4.1
  have hpriv : methT.isPrivate = true := Cond.privateMethod_at (mvP (s := T) (args := #[]) hZT wp) t methT hmTn hmethT
  have hpk : T.plainMethod ⟨cK, 1⟩ := State.plainMethod.of_name (fun k' hk' => by cases hkK.symm.trans hk'; exact hpn)
  obtain ⟨Y₀, hin⟩ := X.into hg hsize hdg #[.ref fo, .ref k] (R' := { frames := rm.frames + 1, cells := rm.cells, slots := rm.slots, locals := (maxL + 11) + rm.locals }) hmk hck hlk hpk hfr (by rw [hml]; exact hlo) hcells hslots
  have hL0 : entryFrame ⟨cK, 1⟩ #[.ref fo, .ref k] ck.maxLocals = { method := ⟨cK, 1⟩, pc := 0, locals := #[.val (.ref fo), .val (.ref k)], stack := [], locked := none } := by rw [hml]; rfl
  rw [hL0] at Y₀ hin
  generalize hU : (T.setTop g).pushFrame (.java { method := ⟨cK, 1⟩, pc := 0, locals := #[.val (.ref fo), .val (.ref k)], stack := [], locked := none }) = U at Y₀ hin
  have hvmU : U.vm = T.vm := by rw [← hU]; rfl
  have hheapU : U.heap = T.heap := by rw [← hU]; rfl
  have hK := backOfV (p := p) (e := e) (R := { frames := rm.frames + 1, cells := rm.cells, slots := rm.slots, locals := (maxL + 11) + rm.locals }) (below := .java g :: below) (s := T.calling g ⟨cK, 1⟩ #[.ref fo, .ref k]) (args := #[.ref fo, .ref k]) (len := 3) (W := 0) (a0 := a0) (PV := PV) hM hZT
    (fun vm hW => hI vm (State.WarmedH.trans (t := T.calling g ⟨cK, 1⟩ #[.ref fo, .ref k]) X.warmed hW)) wc wz (Nat.le_refl _) (by show 0 + (maxL + 11) + rm.locals ≤ (maxL + 11) + rm.locals; omega)
  have hnamedU : U.methodNamed? y = some t := by rw [← hU]; exact hmTn
  obtain ⟨v, ⟨U', ls, cc, sl⟩, Y₁, hS, hgr, ⟨L, hQ, hl, hc, hs⟩, hsteps⟩ := hK ⟨cK, 1⟩ methk ck ⟨U, [], 0, 0⟩ { method := ⟨cK, 1⟩, pc := 12, locals := #[.val (.ref fo), .val (.ref k)], stack := [], locked := none } (.invokevirtual 29) t #[.ref a, .ref f, .ref k] Y₀ rfl (by rw [hml]; rfl)
    (by rw [hbytes]; exact fc12) (Nat.le_refl _) hnamedU ⟨rfl, hheapU.trans eT, by show 0 + rm.cells ≤ rm.cells; omega, by show 0 + rm.slots ≤ rm.slots; omega⟩
  dsimp only [Pt.U, Pt.locs, Pt.cells, Pt.slots] at Y₁ hS hgr hQ hl hc hs hsteps
  obtain ⟨w, rfl, hw⟩ := hout _ _ _ _ hQ
  obtain ⟨fs, hleave, -, hended, hWe, hsame⟩ := Y₁.leave (v := some w) (fun q => by rw [hretk] at q; cases q) hlk
  have hW39 : s.Warmed39 U'.vm := State.Warmed39.trans (t := T.calling g ⟨cK, 1⟩ #[.ref fo, .ref k]) X.warmed.wide hS.1
  have X₂ := X.retabled hW39
  obtain ⟨T', X', -, -, ht⟩ := X₂.outOf (mk := ⟨cK, 1⟩) (a := #[.ref fo, .ref k]) hg hdg hended hWe hsame
  have hvmT : T'.vm = U'.vm := by
    have q : (U'.setFrames fs).vm = (T'.setTop { g with pc := g.pc + len, stack := (some w).toList ++ g.stack }).vm := congrArg State.vm ht
    exact q.symm
  have hheT : T'.heap = U'.heap := by
    have q : (U'.setFrames fs).heap = (T'.setTop { g with pc := g.pc + len, stack := (some w).toList ++ g.stack }).heap := congrArg State.heap ht
    exact q.symm
  refine ⟨some w, ⟨T', locs ++ ls, cells + cc, slots + sl⟩, ?_, ?_, ?_, ⟨L, ?_, ?_, ?_, ?_⟩, fun acts => ?_⟩
  · show Stand p l e R (s.setVm T'.vm) m args below meth c T' _ _ _
    rw [hvmT]; exact X'
  · show s.Since T'.vm T'.heap.size
    rw [hvmT, hheT]
    exact ⟨hW39, fun j q hj hq => by
      obtain ⟨x1, x2⟩ := hS.2 j q (by show T.vm.interned.size ≤ j; rw [X.warmed.interned_eq]; exact hj) hq
      exact ⟨Nat.le_trans X.same.2.1 x1, x2⟩⟩
  · show T.heap.size ≤ T'.heap.size
    rw [hheT, ← hheapU]; exact hgr
  · show Q (some w) T'.heap T'.vm L
    rw [hheT, hvmT]; exact hQ
  · simp [hl]
  · simp [hc]
  · simp [hs]
  · rw [hin acts]
    show Steps p.tables e below _ (T'.setTop { g with pc := g.pc + len, stack := (some w).toList ++ g.stack })
    rw [← ht]
    refine Steps.weaken (mid := [.java g]) ?_
    have hZU : Z.Warmed39 U.vm := by rw [hvmU]; exact hZT
    have hmU := own_madeS (s := U) hZU hmd
    have wOU : (Cond.instantiable "java/lang/Object" 0).before args U = true := mvT (s := U) hZU wO
    obtain ⟨cell, hcell, hccls, hcvm, hcsl⟩ := F
    have hcellU : U.heap[fo]? = some cell := by rw [hheapU, eT]; exact hcell
    jvm_step Y₀.here [hx, hbytes, fc0, Value.isRef]
    refine LamKit.getCap hx Y₀.here (State.WarmedH.refl U) hmU hc0 wOU hcellU hcvm (v := .ref a) (by rw [hcsl]; rfl) (g := { method := ⟨cK, 1⟩, pc := 1, locals := #[.val (.ref fo), .val (.ref k)], stack := [.ref fo], locked := none }) rfl rfl (by rw [hbytes]; exact fc1) ?_
    jvm_step Y₀.here [hx, hbytes, fc4, Value.isRef]
    refine LamKit.getCap hx Y₀.here (State.WarmedH.refl U) hmU hc1 wOU hcellU hcvm (v := .ref f) (by rw [hcsl]; rfl) (g := { method := ⟨cK, 1⟩, pc := 5, locals := #[.val (.ref fo), .val (.ref k)], stack := [.ref fo, .ref a], locked := none }) rfl rfl (by rw [hbytes]; exact fc5) ?_
    jvm_step Y₀.here [hx, hbytes, fc8, Value.isRef]
    obtain ⟨cellk, kk, e1, e2, e3, e4, -⟩ := id Ek
    obtain ⟨kk', hkk', -⟩ := hZU.alike.2.2 _ _ e3
    have hasg : U.vm.assignable cellk.cls cellk.cls = true := by
      rw [hZU.alike.assignable]
      obtain ⟨c1, cT, q1, q2, q3⟩ := Ins.self Ek
      cases e1.symm.trans q1
      cases e2.symm.trans q2
      simp only [Bool.and_eq_true] at q3
      exact q3.2
    have hrdy : U.vm.classReady cK 23 cellk.cls := by
      rw [hvmU]
      exact own_made_cls hcl hd hdn hmade (by rw [hZT.alike.findClass]; exact e2)
    refine (Y₀.checkcastR hx (g := { method := ⟨cK, 1⟩, pc := 9, locals := #[.val (.ref fo), .val (.ref k)], stack := [.ref k, .ref f, .ref a], locked := none }) rfl (index := 23) (cT := cellk.cls) (x := .ref k) (rest := [.ref f, .ref a]) hrdy rfl
      (Or.inr ⟨k, cellk, kk', kk', rfl, by rw [hheapU, eT]; exact e1, (fun q z => by rw [z] at e4; cases e4), hkk', hkk', hasg⟩) (by rw [hbytes]; exact fc9) (Steps.refl _)).trans ?_
    obtain ⟨cella, ka, b1, b2, b3, b4, -⟩ := id Ea
    have hs' : U.topJava?.isSome := Y₀.here.top
    jvm_step Y₀.here [hx, hbytes, fc12, invokevirtual.wp_ready (e := e) (s := U) (r := t) (m := t) (k := tk) (mk := tk) (rmeth := methT) (meth := methT) (a := a) (args := [.ref f, .ref k]) (rest := []) (cell := cella)
      (f := { method := ⟨cK, 1⟩, pc := 12, locals := #[.val (.ref fo), .val (.ref k)], stack := [.ref k, .ref f, .ref a], locked := none }) hs' ⟨kK, file, 25, nt, t.cls, tk, by rw [hvmU]; exact hkK, hfile, hidx, by rw [hvmU]; exact hclsR, by rw [hvmU]; exact htk, hitf⟩ (by rw [hvmU]; exact hready) (by rw [hvmU]; exact htk) (by rw [hvmU]; exact hmethT) hsp hstT (hpar _ hsigT) rfl
      (by rw [hheapU, eT]; exact b1) (fun q z => by rw [z] at b4; cases b4) (by rw [hvmU]; exact selectMethod_private hmethT hpriv) (by rw [hvmU]; exact hmethT) habT (by rw [hvmU]; exact htk) hitf]
    intro acts'
    rw [doInvoke_state]
    refine hsteps.trans ?_
    show Steps p.tables e (.java g :: below) (U'.setTop { method := ⟨cK, 1⟩, pc := 15, locals := #[.val (.ref fo), .val (.ref k)], stack := [w], locked := none }) _
    exact Y₁.areturnOut hx hw hretk rfl (by rw [hbytes]; exact fc15) hleave
/-- invokeinterface on the object of such a lambda -/
theorem own_apply (X : Stand p l e R s m args below meth c T locs cells slots) (hx : p.tables.exec = Jvm.exec) (hZ : Z.Warmed39 s.vm) {own host kn : String} {index count : Nat} {xi y : MethodName} {σ : Lambda.Shape} {cK : ClassId} (hown : s.vm.findClass own = some m.cls)
    (w1 : (Cond.methodLink own index xi).before a0 Z = true) (w2 : (Cond.declares xi).before a0 Z = true) (w3 : (Cond.interfaceMethod xi.cls xi.cls xi.name xi.desc).before args s = true) (hmd : LamKit.Made Z host σ cK)
    (hok : LamKit.fwdOK σ host own_fc 2 (some (.object "java/lang/Object")) 29 25 = true) (hc0 : LamKit.capOK σ host 17 0 = true) (hc1 : LamKit.capOK σ host 19 1 = true) (hcl : own_clsOK σ host 23 kn = true)
    (wO : (Cond.instantiable "java/lang/Object" 0).before a0 Z = true) {nY : Nat} (wY : (Cond.instantiable y.cls nY).before a0 Z = true) (wi : (Cond.instanceMethod y).before a0 Z = true) (wp : (Cond.privateMethod y).before a0 Z = true)
    {bytes : ByteArray} {maxL : Nat} {ret : Option FieldType} (wc : (Cond.code y bytes maxL ret).before a0 Z = true) (wz : (Cond.initialized y.cls).before a0 Z = true)
    (hxi : xi.cls = σ.iface ∧ xi.name = σ.name ∧ xi.desc = σ.sam.toString) (hy : y.cls = σ.implClass ∧ y.name = σ.implName ∧ y.desc = σ.implDesc.toString)
    (hpx : xi.cls ≠ "java/lang/invoke/MethodHandle" ∧ xi.cls ≠ "java/lang/invoke/VarHandle") (hpoly : y.cls ≠ "java/lang/invoke/MethodHandle" ∧ y.cls ≠ "java/lang/invoke/VarHandle")
    (eT : T.heap = h) {fo a f k : Addr} {C : String} (F : Lam h fo cK (.ref a) (.ref f)) (Ea : Exa Z h a C) (Ek : Exa Z h k kn)
    {PV : Vm → Prop} {rm : Room} {Q : Option Value → Heap → Vm → List Loc → Prop}
    (hM : MetFree l y (head1 [Cond.code y bytes maxL ret] rm) (fun as U => as = #[.ref a, .ref f, .ref k] ∧ Z.Warmed39 U.vm ∧ U.heap = h ∧ PV U.vm) (fun _ _ _ _ _ => True) (fun _ U o U' => ∃ v L, o = .returned v ∧ Q v U'.heap U'.vm L ∧ ReturnedEndW U o U' L rm.cells rm.slots))
    (hI : ∀ vm, s.WarmedH vm → PV vm) (hout : ∀ v h vm L, Q v h vm L → ∃ w, v = some w ∧ w.isRef = true) (hpar : ∀ sig, parseMethodDescriptor y.desc = some sig → ([.ref f, .ref k] : List Value).length = sig.parameters.length)
    (hlen : ∀ sig, parseMethodDescriptor xi.desc = some sig → ([.ref k] : List Value).length = sig.parameters.length)
    {g : JFrame} (hg : g.method = m) (hsize : g.locals.size = c.maxLocals) {rest : List Value} (hstack : g.stack = .ref k :: .ref fo :: rest) (hdg : decode c.code g.pc = .ok (.invokeinterface index count, 5))
    (hfr : rm.frames + 2 ≤ R.frames) (hlo : 2 * g.monitorRoom + (rest.map fun v => v.category).sum + (2 + 11) + ((maxL + 11) + rm.locals) ≤ R.locals) (hcells : cells + rm.cells ≤ R.cells) (hslots : slots + rm.slots ≤ R.slots) :
    ∃ (v : Option Value) (vm₁ : Vm) (B : Pt), s.WarmedH vm₁ ∧ Stand p l e R (s.setVm B.U.vm) m args below meth c B.U B.locs B.cells B.slots ∧ s.Since B.U.vm B.U.heap.size ∧ T.heap.size ≤ B.U.heap.size ∧ (∃ L, Q v B.U.heap B.U.vm L ∧ B.locs = locs ++ L ∧ B.cells = cells + rm.cells ∧ B.slots = slots + rm.slots) ∧
      Steps p.tables e below (T.setTop g) (B.U.setTop { g with pc := g.pc + 5, stack := v.toList ++ rest }) := by
  have hmS := own_madeS hZ hmd
  obtain ⟨kK, methk, hkK, hmk, hpub, habs, hsel⟩ := LamKit.madeSelects hmS hok w3 hxi
  obtain ⟨r0, r, hn, hrm, hstR, hsigR⟩ := Cond.declares_spec (mvT (args := args) hZ w2)
  obtain ⟨cL, kL, r1, hcL, hkL, hiL, -, -⟩ := Cond.interfaceMethod_spec w3
  have hr0 : r0.cls = cL := Option.some.inj ((findClass_of_methodNamed hn).symm.trans hcL)
  obtain ⟨hasg, hsel', hway⟩ := hsel r0 r hn hrm
  obtain ⟨cell, hcell, hccls, hcvm, hcsl⟩ := id F
  subst hccls
  obtain ⟨vm₁, X₁, hstep₁⟩ := X.invokeinterface hx hown (mvT hZ w1) hn hrm hstR (by rw [hr0]; exact hkL) hiL hpx (a := fo) (cell := cell) (kcell := kK) (by rw [eT]; exact hcell) (fun z q => by rw [hcvm] at q; cases q) hkK hasg
    (m' := ⟨cell.cls, 1⟩) (meth' := methk) (by rw [Launch.admits_selectMethod X.admits]; exact hsel') hmk hway hpub habs hg (argsL := [.ref k]) (rest := rest) (hlen _ hsigR) hstack hdg
  obtain ⟨v, B, X', hS, hgr, hpost, hsteps⟩ := own_fwd X₁ hx hZ hmd hok hc0 hc1 hcl wO wY wi wp wc wz hy hpoly eT F Ea Ek hM hI hout hpar (g := { g with stack := rest }) hg hsize hdg hfr hlo hcells hslots
  exact ⟨v, vm₁, B, X₁.warmed, X', hS, hgr, hpost, hstep₁ _ fun acts => hsteps acts⟩
end OwnLam
def own_sg : Jvm.Lambda.Shape := (Jvm.Lambda.Shape.mk "java/util/function/Function" "apply" (Jvm.ClassFile.MethodDescriptor.mk ([(Jvm.ClassFile.FieldType.object "java/lang/Object")] : List Jvm.ClassFile.FieldType) (Option.some (Jvm.ClassFile.FieldType.object "java/lang/Object"))) ([(Jvm.ClassFile.FieldType.object "com/example/mandoline/mandoline/Variable"), (Jvm.ClassFile.FieldType.object "com/example/mandoline/mandoline/Place$Field")] : List Jvm.ClassFile.FieldType) (5 : Nat) "com/example/mandoline/mandoline/Variable" "lambda$addField$0" (Jvm.ClassFile.MethodDescriptor.mk ([(Jvm.ClassFile.FieldType.object "com/example/mandoline/mandoline/Place$Field"), (Jvm.ClassFile.FieldType.object "java/lang/String")] : List Jvm.ClassFile.FieldType) (Option.some (Jvm.ClassFile.FieldType.object "com/example/mandoline/mandoline/Variable"))) false (Jvm.ClassFile.MethodDescriptor.mk ([(Jvm.ClassFile.FieldType.object "java/lang/String")] : List Jvm.ClassFile.FieldType) (Option.some (Jvm.ClassFile.FieldType.object "com/example/mandoline/mandoline/Variable"))))
theorem own_hok : LamKit.fwdOK own_sg "com/example/mandoline/mandoline/Variable" own_fc 2 (some (.object "java/lang/Object")) 29 25 = true := by decide +kernel
theorem own_hc0 : LamKit.capOK own_sg "com/example/mandoline/mandoline/Variable" 17 0 = true := by decide +kernel
theorem own_hc1 : LamKit.capOK own_sg "com/example/mandoline/mandoline/Variable" 19 1 = true := by decide +kernel
theorem own_hcl : own_clsOK own_sg "com/example/mandoline/mandoline/Variable" 23 "java/lang/String" = true := by decide +kernel
theorem own_hxi : y_0.cls = own_sg.iface ∧ y_0.name = own_sg.name ∧ y_0.desc = own_sg.sam.toString := by decide +kernel
theorem own_hy : y_1.cls = own_sg.implClass ∧ y_1.name = own_sg.implName ∧ y_1.desc = own_sg.implDesc.toString := by decide +kernel
def own_by (c : Int32) : Int32 := (c.toInt8.toInt32).toInt8.toInt32
def own_min32 (x y : Int32) : Int32 := if y < x then y else x
/-- the first n values of an array's list -/
def own_take (vs : List Value) (d : Value) (n : Nat) : List Value := (List.range n).map fun i => vs.getD i d
theorem own_take_all (vs : List Value) (d : Value) : own_take vs d vs.length = vs := by
  unfold own_take
  apply List.ext_getElem
  · simp
  · intro i h1 h2
    simp [List.getD, List.getElem?_eq_getElem h2]
theorem own_z0 : (0 : Int32).toNatClampNeg = 0 := by decide
theorem own_take_hus (vs : List Value) (d : Value) (n : Nat) : own_take vs d n = (List.range n).map fun i => vs.getD ((0 : Int32).toNatClampNeg + i) d := by
  rw [own_z0]; simp [own_take]
theorem own_take_len (vs : List Value) (d : Value) (n : Nat) : (own_take vs d n).length = n := by simp [own_take]
theorem own_sh0 (x : Int32) : x >>> ((0 : Int32) &&& 31) = x := by
  apply Int32.toInt_inj.mp
  rw [c_ishr x 0 0 (by decide)]; simp
theorem own_sl0 (x : Int32) : x <<< ((0 : Int32) &&& 31) = x := by
  have h := c_ishl x 0 0 (by decide)
  have r := rng32 x
  have r2 := rng32 (x <<< ((0 : Int32) &&& 31))
  generalize x <<< ((0 : Int32) &&& 31) = y at h r2 ⊢
  apply Int32.toInt_inj.mp
  simp only [show ((2 ^ 0 : Nat) : Int) = 1 from rfl] at h
  omega
theorem own_16 : (16 : Int32).toNatClampNeg = 16 := by decide
/-- a char of one byte -/
def Ch8 (c : Int32) : Prop := (¬ (255 : Int32) < c) ∧ nar .char c = c ∧ nar .char (own_by c &&& (255 : Int32)) = c
theorem Ch8.le {c : Int32} (h : Ch8 c) : ¬ (255 : Int32) < c := h.1
theorem Ch8.nr {c : Int32} (h : Ch8 c) : nar .char c = c := h.2.1
theorem Ch8.by8 {c : Int32} (h : Ch8 c) : nar .char (own_by c &&& (255 : Int32)) = c := h.2.2
theorem own_ch8 (x : Int32) : Ch8 (nar .char (x &&& 255)) := by
  have h1 := c_and x 255 (by decide)
  generalize x &&& 255 = r at h1 ⊢
  have z255 : (255 : Int32).toInt = 255 := by decide
  rw [z255] at h1
  obtain ⟨n, hn⟩ : ∃ n : Nat, r.toInt = n := ⟨r.toInt.toNat, by omega⟩
  have hlt : n < 256 := by omega
  have hi : ∀ i : Fin 256, (Int32.ofNat i.1).toInt = i.1 := by decide +kernel
  have hr : r = Int32.ofNat n := Int32.toInt_inj.mp (hn.trans (hi ⟨n, hlt⟩).symm)
  have key : ∀ i : Fin 256, (¬ (255 : Int32) < nar .char (Int32.ofNat i.1)) ∧ nar .char (nar .char (Int32.ofNat i.1)) = nar .char (Int32.ofNat i.1) ∧ nar .char (own_by (nar .char (Int32.ofNat i.1)) &&& (255 : Int32)) = nar .char (Int32.ofNat i.1) := by decide +kernel
  rw [hr]; exact key ⟨n, hlt⟩
theorem own_idx (x : Int32) : ¬ (((16 : Int32) - (1 : Int32)) &&& x) < 0 ∧ (((16 : Int32) - (1 : Int32)) &&& x) < 16 := by
  have h := c_and' ((16 : Int32) - (1 : Int32)) x (by decide)
  have z0 : (0 : Int32).toInt = 0 := by decide
  have z1 : (16 : Int32).toInt = 16 := by decide
  have z2 : ((16 : Int32) - (1 : Int32)).toInt = 15 := by decide
  rw [z2] at h
  rw [Int32.lt_iff_toInt_lt, Int32.lt_iff_toInt_lt, z0, z1]
  generalize ((16 : Int32) - (1 : Int32)) &&& x = r at h ⊢
  omega
theorem own_and3 (x : Int32) : x &&& 3 = 0 ∨ x &&& 3 = 1 ∨ x &&& 3 = 2 ∨ x &&& 3 = 3 := by
  have h := c_and x 3 (by decide)
  have z3 : (3 : Int32).toInt = 3 := by decide
  generalize x &&& 3 = r at h ⊢
  have h4 : r.toInt = 0 ∨ r.toInt = 1 ∨ r.toInt = 2 ∨ r.toInt = 3 := by omega
  rcases h4 with h | h | h | h
  · exact Or.inl (Int32.toInt_inj.mp h)
  · exact Or.inr (Or.inl (Int32.toInt_inj.mp h))
  · exact Or.inr (Or.inr (Or.inl (Int32.toInt_inj.mp h)))
  · exact Or.inr (Or.inr (Or.inr (Int32.toInt_inj.mp h)))
abbrev c0 : ByteArray := jdk_42_method_152_code
theorem d0_0 : decode c0 0 = .ok (.getstatic 38, 3) := by decide +kernel
theorem d0_3 : decode c0 3 = .ok (.ifCond .eq 10, 3) := by decide +kernel
theorem d0_6 : decode c0 6 = .ok (.aload_n 0, 1) := by decide +kernel
theorem d0_7 : decode c0 7 = .ok (.getfield 15, 3) := by decide +kernel
theorem d0_10 : decode c0 10 = .ok (.goto 4, 3) := by decide +kernel
theorem d0_14 : decode c0 14 = .ok (.ireturn, 1) := by decide +kernel
theorem pn_java_lang_String : plainName "java/lang/String" = true := by first | (simp [plainName, overriddenIn]; done) | decide +kernel
theorem ef_rm_coder (m : MethodId) (G1 : Int32) (aa : Addr) (cd : Int32)  : entryFrame m #[(.ref aa)] 1 = mkF m 0 #[vR aa] [] := by  first | (simp [entryFrame, mkF, argsToLocals, Value.category, maxLocals]; done) | rfl
def Q_rm_coder (Z : State) (G1 : Int32) (aa : Addr) (cd : Int32) (h0 : Heap) (n0 : Nat) (v : Option Value) (h : Heap) (L : List Loc) : Prop := (v = some (.int cd)) ∧ (Fr n0 L) ∧ (h = h0)
set_option maxRecDepth 65536 in
set_option maxHeartbeats 40000000 in
theorem rm_coder (l : Launch) (Z : State) (a0 : Array Value) (hw : ∀ d ∈ tables_1, d.before a0 Z = true) (ws : List Jvm.Cond) (G1 : Int32) (aa : Addr) (cd : Int32) (h0 : Heap) (n0 : Nat) (Z0 : n0 ≤ h0.size) (O2 : Sta Z Z.heap "java/lang/String" "COMPACT_STRINGS" "Z" (.int G1)) (P5 : ¬ G1 = 0) (f2 : Fld Z h0 aa "java/lang/String" "coder" "B" (.int cd)) (hcd : cd = 0 ∨ cd = 1) (Old0 : OldL Z n0 h0) :
    MetN l Z y_2 c0 1 (some .byte) ws (Rm 0 0 0 0) #[(.ref aa)] h0 (Q_rm_coder Z G1 aa cd h0 n0) := by
 refine MetFree.of_bodySF (plainFor_of_name pn_java_lang_String) hisR ?_
 intro p e s m args below meth c s₁ Bd hml0 hP hK
 obtain ⟨rfl, hZ, hh⟩ := hP
 have hx := Bd.exec
 have hby := Bd.bytes
 have hml : c.maxLocals = 1 := hml0
 have hown : s.vm.findClass "java/lang/String" = some m.cls := findClass_of_methodNamed Bd.named
 have X0 : Stand p l e (Rm 0 0 0 0) s m #[(.ref aa)] below meth c s₁ [] 0 0 := Stand.of_body Bd
 have e0 : s₁.heap = h0 := by rw [← hh, Bd.state]; rfl
 have N0 := Fr.nil n0
 have K00 : Keep h0 h0 [] := Keep.refl _ _
 show Rch p e below s₁ (entryFrame m #[(.ref aa)] 1) (FinP s (Q_rm_coder Z G1 aa cd h0 n0) 0 0)
 refine Rch.cast (ef_rm_coder m G1 aa cd) ?_
 show Rch p e below s₁ (mkF m 0 #[vR aa] []) _
 obtain ⟨T1, X1, e1, st1⟩ := getS X0 hx hZ hown (host := "") (wi hw 8 rfl) Via.refl e0 (O2.ext Old0.2) (g := (mkF m 0 #[vR aa] [])) rfl (hb hby d0_0)
 refine Rch.st (fun _ k => st1 _ k) ?_
 show Rch p e below T1 (mkF m 3 #[vR aa] [(.int G1)]) _
 refine w_ifNo (pc' := 6) X1 hx hby d0_3 (XT.i0_eq_f (P5)) rfl ?_
 refine w_aloadN (pc' := 7) X1 hx hby d0_6 rfl rfl rfl ?_
 obtain ⟨T2, X2, e2, st2⟩ := getF X1 hx hZ hown (host := "") (Or.inl (wi hw 28 rfl)) Via.refl e1 f2 (g := (mkF m 7 #[vR aa] [(.ref aa)])) rfl rfl (hb hby d0_7)
 refine Rch.st (fun _ k => st2 _ k) ?_
 show Rch p e below T2 (mkF m 10 #[vR aa] [(.int cd)]) _
 refine w_goto (pc' := 14) X2 hx hby d0_10 (by decide) ?_
 exact Rch.retV X2 hx Bd.returns (by rcases hcd with rfl | rfl <;> rfl) (Or.inl ⟨rfl, by simp, _, rfl⟩) (hb hby d0_14) (by rw [e2]; exact ⟨rfl, N0, rfl⟩) (by decide) (by decide)

abbrev c1 : ByteArray := jdk_42_method_54_code
theorem d1_0 : decode c1 0 = .ok (.aload_n 0, 1) := by decide +kernel
theorem d1_1 : decode c1 1 = .ok (.getfield 9, 3) := by decide +kernel
theorem d1_4 : decode c1 4 = .ok (.arraylength, 1) := by decide +kernel
theorem d1_5 : decode c1 5 = .ok (.aload_n 0, 1) := by decide +kernel
theorem d1_6 : decode c1 6 = .ok (.invokevirtual 335, 3) := by decide +kernel
theorem d1_9 : decode c1 9 = .ok (.ishr, 1) := by decide +kernel
theorem d1_10 : decode c1 10 = .ok (.ireturn, 1) := by decide +kernel
theorem ef_rm_length (m : MethodId) (G1 : Int32) (aa : Addr) (cd : Int32) (bb : Addr) (kb : ClassId) (nn : Int32) (vs : List Value) (dd : Value)  : entryFrame m #[(.ref aa)] 1 = mkF m 0 #[vR aa] [] := by  first | (simp [entryFrame, mkF, argsToLocals, Value.category, maxLocals]; done) | rfl
def Q_rm_length (Z : State) (G1 : Int32) (aa : Addr) (cd : Int32) (bb : Addr) (kb : ClassId) (nn : Int32) (vs : List Value) (dd : Value) (h0 : Heap) (n0 : Nat) (v : Option Value) (h : Heap) (L : List Loc) : Prop := (v = some (.int (nn >>> (cd &&& 31)))) ∧ (Fr n0 L) ∧ (h = h0)
theorem pd___B : parseMethodDescriptor "()B" = some ⟨[], (some .byte)⟩ := by decide +kernel
set_option maxRecDepth 65536 in
set_option maxHeartbeats 40000000 in
theorem rm_length (l : Launch) (Z : State) (a0 : Array Value) (hw : ∀ d ∈ tables_1, d.before a0 Z = true) (ws : List Jvm.Cond) (G1 : Int32) (aa : Addr) (cd : Int32) (bb : Addr) (kb : ClassId) (nn : Int32) (vs : List Value) (dd : Value) (h0 : Heap) (n0 : Nat) (Z0 : n0 ≤ h0.size) (O2 : Sta Z Z.heap "java/lang/String" "COMPACT_STRINGS" "Z" (.int G1)) (P5 : ¬ G1 = 0) (f2 : Fld Z h0 aa "java/lang/String" "coder" "B" (.int cd)) (hcd : cd = 0 ∨ cd = 1) (f4 : Fld Z h0 aa "java/lang/String" "value" "[B" (.ref bb)) (f5 : Arv Z h0 bb kb .byte nn vs dd) (f6 : Exa Z h0 aa "java/lang/String") (Old0 : OldL Z n0 h0) :
    MetN l Z y_3 c1 1 (some .int) ws (Rm 1 0 0 13) #[(.ref aa)] h0 (Q_rm_length Z G1 aa cd bb kb nn vs dd h0 n0) := by
 refine MetFree.of_bodySF (plainFor_of_name pn_java_lang_String) hisR ?_
 intro p e s m args below meth c s₁ Bd hml0 hP hK
 obtain ⟨rfl, hZ, hh⟩ := hP
 have hx := Bd.exec
 have hby := Bd.bytes
 have hml : c.maxLocals = 1 := hml0
 have hown : s.vm.findClass "java/lang/String" = some m.cls := findClass_of_methodNamed Bd.named
 have X0 : Stand p l e (Rm 1 0 0 13) s m #[(.ref aa)] below meth c s₁ [] 0 0 := Stand.of_body Bd
 have e0 : s₁.heap = h0 := by rw [← hh, Bd.state]; rfl
 have N0 := Fr.nil n0
 have K00 : Keep h0 h0 [] := Keep.refl _ _
 show Rch p e below s₁ (entryFrame m #[(.ref aa)] 1) (FinP s (Q_rm_length Z G1 aa cd bb kb nn vs dd h0 n0) 0 0)
 refine Rch.cast (ef_rm_length m G1 aa cd bb kb nn vs dd) ?_
 show Rch p e below s₁ (mkF m 0 #[vR aa] []) _
 refine w_aloadN (pc' := 1) X0 hx hby d1_0 rfl rfl rfl ?_
 obtain ⟨T3, X3, e3, st3⟩ := getF X0 hx hZ hown (host := "") (Or.inl (wi hw 26 rfl)) Via.refl e0 f4 (g := (mkF m 1 #[vR aa] [(.ref aa)])) rfl rfl (hb hby d1_1)
 refine Rch.st (fun _ k => st3 _ k) ?_
 show Rch p e below T3 (mkF m 4 #[vR aa] [(.ref bb)]) _
 refine Rch.st (fun _ k => own_alen X3 hx hZ e3 f5 rfl rfl (hb hby d1_4) k) ?_
 show Rch p e below T3 (mkF m 5 #[vR aa] [(.int nn)]) _
 refine w_aloadN (pc' := 6) X3 hx hby d1_5 rfl rfl rfl ?_
 obtain ⟨cq4, kq4, q4a, q4b, q4c⟩ := isOf hZ e3 f6
 obtain ⟨_, _, ⟨T4, L4, k4, n4⟩, -, X4, ⟨Lc4, hQ4, l4, y4, z4⟩, st4⟩ := X3.virtualBack hx (y := y_2) (z := y_2) hown (mvT hZ (wi hw 206 rfl)) (mvT hZ (wi hw 207 rfl)) (notFace_of_selects (args := #[]) (mvT hZ (wi hw 209 rfl))) (mvT hZ (wi hw 209 rfl)) (mvT hZ (wi hw 208 rfl)) (by decide) (backOf (W := 1) (rm_coder l Z a0 hw [] G1 aa cd h0 n0 Z0 (O2) (P5) f2 (hcd) Old0) hZ (wi hw 210 rfl) (wi hw 6 rfl) (by decide) (by decide)) q4a q4c (g := (mkF m 6 #[vR aa] [(.ref aa), (.int nn)])) rfl (by rw [hml]; rfl) (Steps.refl _) (argsL := []) (rest := [(.int nn)]) (lenOf pd___B rfl) rfl (by show 2 * 0 + _ ≤ _; exact Nat.le_of_eq rfl) (hb hby d1_6) (fun _ _ => ⟨rfl, e3, (by decide : 0 + 0 ≤ _), (by decide : 0 + 0 ≤ _)⟩)
 dsimp only [Pt.U, Pt.locs, Pt.cells, Pt.slots] at X4 l4 y4 z4 st4 hQ4
 subst l4 y4 z4
 obtain ⟨rfl, NQ4, K4⟩ := hQ4
 have N5 := Fr.app N0 NQ4
 refine Rch.st (fun _ k => st4.trans k) ?_
 show Rch p e below T4 (mkF m 9 #[vR aa] [(.int cd), (.int nn)]) _
 refine w_ishr (pc' := 10) X4 hx hby d1_9 rfl ?_
 exact Rch.retV X4 hx Bd.returns rfl (Or.inl ⟨rfl, by simp, _, rfl⟩) (hb hby d1_10) (by rw [K4]; exact ⟨rfl, N5, rfl⟩) (by decide) (by decide)

abbrev c2 : ByteArray := jdk_52_method_15_code
theorem d2_0 : decode c2 0 = .ok (.iload_n 1, 1) := by decide +kernel
theorem d2_1 : decode c2 1 = .ok (.aload_n 0, 1) := by decide +kernel
theorem d2_2 : decode c2 2 = .ok (.arraylength, 1) := by decide +kernel
theorem d2_3 : decode c2 3 = .ok (.isub, 1) := by decide +kernel
theorem d2_4 : decode c2 4 = .ok (.bipush 31, 2) := by decide +kernel
theorem d2_6 : decode c2 6 = .ok (.iushr, 1) := by decide +kernel
theorem d2_7 : decode c2 7 = .ok (.i2b, 1) := by decide +kernel
theorem d2_8 : decode c2 8 = .ok (.ireturn, 1) := by decide +kernel
theorem pn_java_lang_StringUTF16 : plainName "java/lang/StringUTF16" = true := by first | (simp [plainName, overriddenIn]; done) | decide +kernel
theorem ef_rm_cfl (m : MethodId) (bd : Addr) (kd : ClassId) (nn : Int32) (mm : Int32) (vs : List Value) (dd : Value)  : entryFrame m #[(.ref bd), (.int nn)] 2 = mkF m 0 #[vR bd, vI nn] [] := by  first | (simp [entryFrame, mkF, argsToLocals, Value.category, maxLocals]; done) | rfl
def Q_rm_cfl (Z : State) (bd : Addr) (kd : ClassId) (nn : Int32) (mm : Int32) (vs : List Value) (dd : Value) (h0 : Heap) (n0 : Nat) (v : Option Value) (h : Heap) (L : List Loc) : Prop := (v = some (.int ((XT.ushr (nn - mm) (31 : Int32))).toInt8.toInt32)) ∧ (Fr n0 L) ∧ (h = h0)
set_option maxRecDepth 65536 in
set_option maxHeartbeats 40000000 in
theorem rm_cfl (l : Launch) (Z : State) (a0 : Array Value) (hw : ∀ d ∈ tables_1, d.before a0 Z = true) (ws : List Jvm.Cond) (bd : Addr) (kd : ClassId) (nn : Int32) (mm : Int32) (vs : List Value) (dd : Value) (h0 : Heap) (n0 : Nat) (Z0 : n0 ≤ h0.size) (f0 : Arv Z h0 bd kd .byte mm vs dd) :
    MetN l Z y_4 c2 2 (some .byte) ws (Rm 0 0 0 0) #[(.ref bd), (.int nn)] h0 (Q_rm_cfl Z bd kd nn mm vs dd h0 n0) := by
 refine MetFree.of_bodySF (plainFor_of_name pn_java_lang_StringUTF16) hisR ?_
 intro p e s m args below meth c s₁ Bd hml0 hP hK
 obtain ⟨rfl, hZ, hh⟩ := hP
 have hx := Bd.exec
 have hby := Bd.bytes
 have hml : c.maxLocals = 2 := hml0
 have hown : s.vm.findClass "java/lang/StringUTF16" = some m.cls := findClass_of_methodNamed Bd.named
 have X0 : Stand p l e (Rm 0 0 0 0) s m #[(.ref bd), (.int nn)] below meth c s₁ [] 0 0 := Stand.of_body Bd
 have e0 : s₁.heap = h0 := by rw [← hh, Bd.state]; rfl
 have N0 := Fr.nil n0
 have K00 : Keep h0 h0 [] := Keep.refl _ _
 show Rch p e below s₁ (entryFrame m #[(.ref bd), (.int nn)] 2) (FinP s (Q_rm_cfl Z bd kd nn mm vs dd h0 n0) 0 0)
 refine Rch.cast (ef_rm_cfl m bd kd nn mm vs dd) ?_
 show Rch p e below s₁ (mkF m 0 #[vR bd, vI nn] []) _
 refine w_iloadN (pc' := 1) X0 hx hby d2_0 rfl rfl ?_
 refine w_aloadN (pc' := 2) X0 hx hby d2_1 rfl rfl rfl ?_
 refine Rch.st (fun _ k => own_alen X0 hx hZ e0 f0 rfl rfl (hb hby d2_2) k) ?_
 show Rch p e below s₁ (mkF m 3 #[vR bd, vI nn] [(.int mm), (.int nn)]) _
 refine w_isub (pc' := 4) X0 hx hby d2_3 rfl ?_
 refine w_bipush (pc' := 6) (v := 31) X0 hx hby d2_4 rfl rfl ?_
 refine w_iushr (pc' := 7) X0 hx hby d2_6 rfl ?_
 refine w_i2b (pc' := 8) X0 hx hby d2_7 rfl ?_
 exact Rch.retV X0 hx Bd.returns (XT.narrow_b _) (Or.inl ⟨rfl, by simp, _, rfl⟩) (hb hby d2_8) (by rw [e0]; exact ⟨rfl, N0, rfl⟩) (by decide) (by decide)

abbrev c3 : ByteArray := jdk_42_method_154_code
theorem d3_0 : decode c3 0 = .ok (.getstatic 38, 3) := by decide +kernel
theorem d3_3 : decode c3 3 = .ok (.ifCond .eq 14, 3) := by decide +kernel
theorem d3_6 : decode c3 6 = .ok (.aload_n 0, 1) := by decide +kernel
theorem d3_7 : decode c3 7 = .ok (.getfield 15, 3) := by decide +kernel
theorem d3_10 : decode c3 10 = .ok (.ifCond .ne 7, 3) := by decide +kernel
theorem d3_13 : decode c3 13 = .ok (.iconst 1, 1) := by decide +kernel
theorem d3_14 : decode c3 14 = .ok (.goto 4, 3) := by decide +kernel
theorem d3_18 : decode c3 18 = .ok (.ireturn, 1) := by decide +kernel
theorem ef_rm_isl (m : MethodId) (G1 : Int32) (aa : Addr)  : entryFrame m #[(.ref aa)] 1 = mkF m 0 #[vR aa] [] := by  first | (simp [entryFrame, mkF, argsToLocals, Value.category, maxLocals]; done) | rfl
def Q_rm_isl (Z : State) (G1 : Int32) (aa : Addr) (h0 : Heap) (n0 : Nat) (v : Option Value) (h : Heap) (L : List Loc) : Prop := (v = some (.int (1 : Int32))) ∧ (Fr n0 L) ∧ (h = h0)
set_option maxRecDepth 65536 in
set_option maxHeartbeats 40000000 in
theorem rm_isl (l : Launch) (Z : State) (a0 : Array Value) (hw : ∀ d ∈ tables_1, d.before a0 Z = true) (ws : List Jvm.Cond) (G1 : Int32) (aa : Addr) (h0 : Heap) (n0 : Nat) (Z0 : n0 ≤ h0.size) (O2 : Sta Z Z.heap "java/lang/String" "COMPACT_STRINGS" "Z" (.int G1)) (P5 : ¬ G1 = 0) (f2 : Fld Z h0 aa "java/lang/String" "coder" "B" (.int (0 : Int32))) (Old0 : OldL Z n0 h0) :
    MetN l Z y_5 c3 1 (some .boolean) ws (Rm 0 0 0 0) #[(.ref aa)] h0 (Q_rm_isl Z G1 aa h0 n0) := by
 refine MetFree.of_bodySF (plainFor_of_name pn_java_lang_String) hisR ?_
 intro p e s m args below meth c s₁ Bd hml0 hP hK
 obtain ⟨rfl, hZ, hh⟩ := hP
 have hx := Bd.exec
 have hby := Bd.bytes
 have hml : c.maxLocals = 1 := hml0
 have hown : s.vm.findClass "java/lang/String" = some m.cls := findClass_of_methodNamed Bd.named
 have X0 : Stand p l e (Rm 0 0 0 0) s m #[(.ref aa)] below meth c s₁ [] 0 0 := Stand.of_body Bd
 have e0 : s₁.heap = h0 := by rw [← hh, Bd.state]; rfl
 have N0 := Fr.nil n0
 have K00 : Keep h0 h0 [] := Keep.refl _ _
 show Rch p e below s₁ (entryFrame m #[(.ref aa)] 1) (FinP s (Q_rm_isl Z G1 aa h0 n0) 0 0)
 refine Rch.cast (ef_rm_isl m G1 aa) ?_
 show Rch p e below s₁ (mkF m 0 #[vR aa] []) _
 obtain ⟨T6, X6, e6, st6⟩ := getS X0 hx hZ hown (host := "") (wi hw 8 rfl) Via.refl e0 (O2.ext Old0.2) (g := (mkF m 0 #[vR aa] [])) rfl (hb hby d3_0)
 refine Rch.st (fun _ k => st6 _ k) ?_
 show Rch p e below T6 (mkF m 3 #[vR aa] [(.int G1)]) _
 refine w_ifNo (pc' := 6) X6 hx hby d3_3 (XT.i0_eq_f (P5)) rfl ?_
 refine w_aloadN (pc' := 7) X6 hx hby d3_6 rfl rfl rfl ?_
 obtain ⟨T7, X7, e7, st7⟩ := getF X6 hx hZ hown (host := "") (Or.inl (wi hw 28 rfl)) Via.refl e6 f2 (g := (mkF m 7 #[vR aa] [(.ref aa)])) rfl rfl (hb hby d3_7)
 refine Rch.st (fun _ k => st7 _ k) ?_
 show Rch p e below T7 (mkF m 10 #[vR aa] [(.int 0)]) _
 refine w_ifNo (pc' := 13) X7 hx hby d3_10 (XT.i0_ne_f (by decide)) rfl ?_
 refine w_iconst (pc' := 14) (v := 1) X7 hx hby d3_13 rfl rfl ?_
 refine w_goto (pc' := 18) X7 hx hby d3_14 (by decide) ?_
 exact Rch.retV X7 hx Bd.returns rfl (Or.inl ⟨rfl, by simp, _, rfl⟩) (hb hby d3_18) (by rw [e7]; exact ⟨rfl, N0, rfl⟩) (by decide) (by decide)

abbrev c4 : ByteArray := jdk_29_method_69_code
theorem d4_0 : decode c4 0 = .ok (.iload_n 0, 1) := by decide +kernel
theorem d4_1 : decode c4 1 = .ok (.iload_n 1, 1) := by decide +kernel
theorem d4_2 : decode c4 2 = .ok (.if_icmp .gt 7, 3) := by decide +kernel
theorem d4_5 : decode c4 5 = .ok (.iload_n 0, 1) := by decide +kernel
theorem d4_6 : decode c4 6 = .ok (.goto 4, 3) := by decide +kernel
theorem d4_9 : decode c4 9 = .ok (.iload_n 1, 1) := by decide +kernel
theorem d4_10 : decode c4 10 = .ok (.ireturn, 1) := by decide +kernel
theorem ef_rm_min32 (m : MethodId) (xx : Int32) (yy : Int32)  : entryFrame m #[(.int xx), (.int yy)] 2 = mkF m 0 #[vI xx, vI yy] [] := by  first | (simp [entryFrame, mkF, argsToLocals, Value.category, maxLocals]; done) | rfl
def Q_rm_min32 (Z : State) (xx : Int32) (yy : Int32) (h0 : Heap) (n0 : Nat) (v : Option Value) (h : Heap) (L : List Loc) : Prop := (v = some (.int (own_min32 xx yy))) ∧ (Fr n0 L) ∧ (h = h0)
set_option maxRecDepth 65536 in
set_option maxHeartbeats 40000000 in
theorem rm_min32 (l : Launch) (Z : State) (a0 : Array Value) (hw : ∀ d ∈ tables_1, d.before a0 Z = true) (ws : List Jvm.Cond) (xx : Int32) (yy : Int32) (h0 : Heap) (n0 : Nat) (Z0 : n0 ≤ h0.size)  :
    MetN l Z y_6 c4 2 (some .int) ws (Rm 0 0 0 0) #[(.int xx), (.int yy)] h0 (Q_rm_min32 Z xx yy h0 n0) := by
 refine MetFree.of_bodySF (Jvm.Free.JP.mathPlain rfl (by decide +kernel)) hisR ?_
 intro p e s m args below meth c s₁ Bd hml0 hP hK
 obtain ⟨rfl, hZ, hh⟩ := hP
 have hx := Bd.exec
 have hby := Bd.bytes
 have hml : c.maxLocals = 2 := hml0
 have hown : s.vm.findClass "java/lang/Math" = some m.cls := findClass_of_methodNamed Bd.named
 have X0 : Stand p l e (Rm 0 0 0 0) s m #[(.int xx), (.int yy)] below meth c s₁ [] 0 0 := Stand.of_body Bd
 have e0 : s₁.heap = h0 := by rw [← hh, Bd.state]; rfl
 have N0 := Fr.nil n0
 have K00 : Keep h0 h0 [] := Keep.refl _ _
 show Rch p e below s₁ (entryFrame m #[(.int xx), (.int yy)] 2) (FinP s (Q_rm_min32 Z xx yy h0 n0) 0 0)
 refine Rch.cast (ef_rm_min32 m xx yy) ?_
 show Rch p e below s₁ (mkF m 0 #[vI xx, vI yy] []) _
 refine w_iloadN (pc' := 1) X0 hx hby d4_0 rfl rfl ?_
 refine w_iloadN (pc' := 2) X0 hx hby d4_1 rfl rfl ?_
 by_cases c8 : yy < xx
 ·skip
  refine w_icmpYes (pc' := 9) X0 hx hby d4_2 (XT.ii_gt_t (c8)) (by decide) ?_
  refine w_iloadN (pc' := 10) X0 hx hby d4_9 rfl rfl ?_
  exact Rch.retV X0 hx Bd.returns rfl (Or.inl ⟨rfl, by simp, _, rfl⟩) (hb hby d4_10) (by rw [e0]; exact ⟨by simp [own_min32, c8], N0, rfl⟩) (by decide) (by decide)
 ·skip
  refine w_icmpNo (pc' := 5) X0 hx hby d4_2 (XT.ii_gt_f (c8)) rfl ?_
  refine w_iloadN (pc' := 6) X0 hx hby d4_5 rfl rfl ?_
  refine w_goto (pc' := 10) X0 hx hby d4_6 (by decide) ?_
  exact Rch.retV X0 hx Bd.returns rfl (Or.inl ⟨rfl, by simp, _, rfl⟩) (hb hby d4_10) (by rw [e0]; exact ⟨by simp [own_min32, c8], N0, rfl⟩) (by decide) (by decide)

abbrev c5 : ByteArray := jdk_65_method_131_code
theorem d5_0 : decode c5 0 = .ok (.iload_n 1, 1) := by decide +kernel
theorem d5_1 : decode c5 1 = .ok (.iload_n 0, 1) := by decide +kernel
theorem d5_2 : decode c5 2 = .ok (.if_icmp .ge 35, 3) := by decide +kernel
theorem d5_37 : decode c5 37 = .ok (.return_, 1) := by decide +kernel
theorem pn_java_util_Arrays : plainName "java/util/Arrays" = true := by first | (simp [plainName, overriddenIn]; done) | decide +kernel
theorem ef_rm_ckl (m : MethodId) (fr : Int32) (to : Int32)  : entryFrame m #[(.int fr), (.int to)] 2 = mkF m 0 #[vI fr, vI to] [] := by  first | (simp [entryFrame, mkF, argsToLocals, Value.category, maxLocals]; done) | rfl
def Q_rm_ckl (Z : State) (fr : Int32) (to : Int32) (h0 : Heap) (n0 : Nat) (v : Option Value) (h : Heap) (L : List Loc) : Prop := (v = none) ∧ (Fr n0 L) ∧ (h = h0)
set_option maxRecDepth 65536 in
set_option maxHeartbeats 40000000 in
theorem rm_ckl (l : Launch) (Z : State) (a0 : Array Value) (hw : ∀ d ∈ tables_1, d.before a0 Z = true) (ws : List Jvm.Cond) (fr : Int32) (to : Int32) (h0 : Heap) (n0 : Nat) (Z0 : n0 ≤ h0.size) (hz0 : ¬ to < fr) :
    MetN l Z y_7 c5 2 none ws (Rm 0 0 0 0) #[(.int fr), (.int to)] h0 (Q_rm_ckl Z fr to h0 n0) := by
 refine MetFree.of_bodySF (plainFor_of_name pn_java_util_Arrays) hisR ?_
 intro p e s m args below meth c s₁ Bd hml0 hP hK
 obtain ⟨rfl, hZ, hh⟩ := hP
 have hx := Bd.exec
 have hby := Bd.bytes
 have hml : c.maxLocals = 2 := hml0
 have hown : s.vm.findClass "java/util/Arrays" = some m.cls := findClass_of_methodNamed Bd.named
 have X0 : Stand p l e (Rm 0 0 0 0) s m #[(.int fr), (.int to)] below meth c s₁ [] 0 0 := Stand.of_body Bd
 have e0 : s₁.heap = h0 := by rw [← hh, Bd.state]; rfl
 have N0 := Fr.nil n0
 have K00 : Keep h0 h0 [] := Keep.refl _ _
 show Rch p e below s₁ (entryFrame m #[(.int fr), (.int to)] 2) (FinP s (Q_rm_ckl Z fr to h0 n0) 0 0)
 refine Rch.cast (ef_rm_ckl m fr to) ?_
 show Rch p e below s₁ (mkF m 0 #[vI fr, vI to] []) _
 refine w_iloadN (pc' := 1) X0 hx hby d5_0 rfl rfl ?_
 refine w_iloadN (pc' := 2) X0 hx hby d5_1 rfl rfl ?_
 refine w_icmpYes (pc' := 37) X0 hx hby d5_2 (XT.ii_ge_t (hz0)) (by decide) ?_
 exact Rch.ret0 X0 hx Bd.returns (hb hby d5_37) (by rw [e0]; exact ⟨rfl, N0, rfl⟩) (by decide) (by decide)

abbrev c6 : ByteArray := jdk_65_method_133_code
theorem d6_0 : decode c6 0 = .ok (.iload_n 1, 1) := by decide +kernel
theorem d6_1 : decode c6 1 = .ok (.iload_n 2, 1) := by decide +kernel
theorem d6_2 : decode c6 2 = .ok (.invokestatic 343, 3) := by decide +kernel
theorem d6_5 : decode c6 5 = .ok (.iload_n 2, 1) := by decide +kernel
theorem d6_6 : decode c6 6 = .ok (.iload_n 1, 1) := by decide +kernel
theorem d6_7 : decode c6 7 = .ok (.isub, 1) := by decide +kernel
theorem d6_8 : decode c6 8 = .ok (.istore_n 3, 1) := by decide +kernel
theorem d6_9 : decode c6 9 = .ok (.iload_n 3, 1) := by decide +kernel
theorem d6_10 : decode c6 10 = .ok (.newarray .byte, 2) := by decide +kernel
theorem d6_12 : decode c6 12 = .ok (.astore 4, 2) := by decide +kernel
theorem d6_14 : decode c6 14 = .ok (.aload_n 0, 1) := by decide +kernel
theorem d6_15 : decode c6 15 = .ok (.iload_n 1, 1) := by decide +kernel
theorem d6_16 : decode c6 16 = .ok (.aload 4, 2) := by decide +kernel
theorem d6_18 : decode c6 18 = .ok (.iconst 0, 1) := by decide +kernel
theorem d6_19 : decode c6 19 = .ok (.aload_n 0, 1) := by decide +kernel
theorem d6_20 : decode c6 20 = .ok (.arraylength, 1) := by decide +kernel
theorem d6_21 : decode c6 21 = .ok (.iload_n 1, 1) := by decide +kernel
theorem d6_22 : decode c6 22 = .ok (.isub, 1) := by decide +kernel
theorem d6_23 : decode c6 23 = .ok (.iload_n 3, 1) := by decide +kernel
theorem d6_24 : decode c6 24 = .ok (.invokestatic 304, 3) := by decide +kernel
theorem d6_27 : decode c6 27 = .ok (.invokestatic 150, 3) := by decide +kernel
theorem d6_30 : decode c6 30 = .ok (.aload 4, 2) := by decide +kernel
theorem d6_32 : decode c6 32 = .ok (.areturn, 1) := by decide +kernel
theorem ef_rm_crb (m : MethodId) (bb : Addr) (kb : ClassId) (nn : Int32) (vs : List Value) (dd : Value) (en : Int32)  : entryFrame m #[(.ref bb), (.int (0 : Int32)), (.int en)] 5 = mkF m 0 #[vR bb, vI 0, vI en, U, U] [] := by  first | (simp [entryFrame, mkF, argsToLocals, Value.category, maxLocals]; done) | rfl
def Q_rm_crb (Z : State) (bb : Addr) (kb : ClassId) (nn : Int32) (vs : List Value) (dd : Value) (en : Int32) (h0 : Heap) (n0 : Nat) (v : Option Value) (h : Heap) (L : List Loc) : Prop := ∃ (t : Addr) (kt : ClassId), (v = some (.ref t)) ∧ (Fr n0 L) ∧ (Keep h0 h []) ∧ (h0.size ≤ t) ∧ (Arv Z h t kt .byte en (own_take vs dd en.toNatClampNeg) (.int (0 : Int32)))
theorem pd__II_V : parseMethodDescriptor "(II)V" = some ⟨[.int, .int], none⟩ := by decide +kernel
theorem pd__II_I : parseMethodDescriptor "(II)I" = some ⟨[.int, .int], (some .int)⟩ := by decide +kernel
set_option maxRecDepth 65536 in
set_option maxHeartbeats 40000000 in
theorem rm_crb (l : Launch) (Z : State) (a0 : Array Value) (hw : ∀ d ∈ tables_1, d.before a0 Z = true) (ws : List Jvm.Cond) (bb : Addr) (kb : ClassId) (nn : Int32) (vs : List Value) (dd : Value) (en : Int32) (h0 : Heap) (n0 : Nat) (Z0 : n0 ≤ h0.size) (f0 : Arv Z h0 bb kb .byte nn vs dd) (hz0 : ¬ en < 0) (hc : en.toNatClampNeg ≤ 16) (hm : own_min32 nn en = en) (hl : en.toNatClampNeg ≤ nn.toNatClampNeg) :
    MetN l Z y_8 c6 5 (some (.array .byte)) ws (Rm 1 1 16 18) #[(.ref bb), (.int (0 : Int32)), (.int en)] h0 (Q_rm_crb Z bb kb nn vs dd en h0 n0) := by
 refine MetFree.of_bodySF (plainFor_of_name pn_java_util_Arrays) hisR ?_
 intro p e s m args below meth c s₁ Bd hml0 hP hK
 obtain ⟨rfl, hZ, hh⟩ := hP
 have hx := Bd.exec
 have hby := Bd.bytes
 have hml : c.maxLocals = 5 := hml0
 have hown : s.vm.findClass "java/util/Arrays" = some m.cls := findClass_of_methodNamed Bd.named
 have X0 : Stand p l e (Rm 1 1 16 18) s m #[(.ref bb), (.int (0 : Int32)), (.int en)] below meth c s₁ [] 0 0 := Stand.of_body Bd
 have e0 : s₁.heap = h0 := by rw [← hh, Bd.state]; rfl
 have N0 := Fr.nil n0
 have K00 : Keep h0 h0 [] := Keep.refl _ _
 show Rch p e below s₁ (entryFrame m #[(.ref bb), (.int (0 : Int32)), (.int en)] 5) (FinP s (Q_rm_crb Z bb kb nn vs dd en h0 n0) 1 16)
 refine Rch.cast (ef_rm_crb m bb kb nn vs dd en) ?_
 show Rch p e below s₁ (mkF m 0 #[vR bb, vI 0, vI en, U, U] []) _
 refine w_iloadN (pc' := 1) X0 hx hby d6_0 rfl rfl ?_
 refine w_iloadN (pc' := 2) X0 hx hby d6_1 rfl rfl ?_
 obtain ⟨_, _, ⟨T9, L9, k9, n9⟩, -, X9, ⟨Lc9, hQ9, l9, y9, z9⟩, st9⟩ := Jvm.LawKit.callS X0 hx (y := y_7) hown (mvT hZ (wi hw 278 rfl)) (mvT hZ (wi hw 279 rfl)) (mvT hZ (wi hw 273 rfl)) (mvT hZ (wi hw 280 rfl)) (by decide) (backOf (W := 0) (rm_ckl l Z a0 hw [] 0 en h0 n0 Z0 (hz0)) hZ (wi hw 280 rfl) (wi hw 273 rfl) (by decide) (by decide)) (g := (mkF m 2 #[vR bb, vI 0, vI en, U, U] [(.int en), (.int 0)])) rfl (by rw [hml]; rfl) (argsL := [(.int 0), (.int en)]) (rest := []) (lenOf pd__II_V rfl) rfl (by show 2 * 0 + _ ≤ _; exact Nat.le_of_eq rfl) (hb hby d6_2) (fun _ _ => ⟨rfl, e0, (by decide : 0 + 0 ≤ _), (by decide : 0 + 0 ≤ _)⟩)
 dsimp only [Pt.U, Pt.locs, Pt.cells, Pt.slots] at X9 l9 y9 z9 st9 hQ9
 subst l9 y9 z9
 obtain ⟨rfl, NQ9, K9⟩ := hQ9
 have N10 := Fr.app N0 NQ9
 refine Rch.st (fun _ k => st9 _ k) ?_
 show Rch p e below T9 (mkF m 5 #[vR bb, vI 0, vI en, U, U] []) _
 refine w_iloadN (pc' := 6) X9 hx hby d6_5 rfl rfl ?_
 refine w_iloadN (pc' := 7) X9 hx hby d6_6 rfl rfl ?_
 refine w_isub (pc' := 8) X9 hx hby d6_7 rfl ?_
 have r11 : (en - (0 : Int32)) = en := by simp
 rw [r11]
 show Rch p e below T9 (mkF m 8 #[vR bb, vI 0, vI en, U, U] [(.int en)]) _
 refine w_istoreN (pc' := 9) (l' := #[vR bb, vI 0, vI en, vI en, U]) X9 hx hby d6_8 rfl rfl ?_
 refine w_iloadN (pc' := 10) X9 hx hby d6_9 rfl rfl ?_
 obtain ⟨T12, h12, kc12, X12, e12, E12, A12, st12⟩ := newP X9 hx hZ (wi hw 18 rfl) K9 (g := (mkF m 10 #[vR bb, vI 0, vI en, vI en, U] [(.int en)])) rfl (hb hby d6_10) rfl (hz0) (cap := 16) (hc) (by decide) (by decide) (by decide)
 obtain ⟨a12, g12⟩ : ∃ z, z = h0.size := ⟨_, rfl⟩
 rw [← g12] at A12 st12
 have ne13 : bb ≠ a12 := by rw [g12]; exact Nat.ne_of_lt f0.lt
 have ge14 : n0 ≤ a12 := Nat.le_trans Z0 (Nat.le_of_eq g12.symm)
 have f16 := f0.ext E12
 have Z17 := Nat.le_trans Z0 E12.1
 have Kp18 : Keep h0 h12 [] := K00.ext E12
 have f19 : Arv Z h12 a12 kc12 .byte en ([] : List Value) (Value.int (0 : Int32)) := Arv.new A12 (hz0)
 refine Rch.st (fun _ k => st12 _ k) ?_
 show Rch p e below T12 (mkF m 12 #[vR bb, vI 0, vI en, vI en, U] [(.ref a12)]) _
 refine w_astore (pc' := 14) (l' := #[vR bb, vI 0, vI en, vI en, vR a12]) X12 hx hby d6_12 rfl rfl rfl ?_
 refine w_aloadN (pc' := 15) X12 hx hby d6_14 rfl rfl rfl ?_
 refine w_iloadN (pc' := 16) X12 hx hby d6_15 rfl rfl ?_
 refine w_aload (pc' := 18) X12 hx hby d6_16 rfl rfl rfl ?_
 refine w_iconst (pc' := 19) (v := 0) X12 hx hby d6_18 rfl rfl ?_
 refine w_aloadN (pc' := 20) X12 hx hby d6_19 rfl rfl rfl ?_
 refine Rch.st (fun _ k => own_alen X12 hx hZ e12 f16 rfl rfl (hb hby d6_20) k) ?_
 show Rch p e below T12 (mkF m 21 #[vR bb, vI 0, vI en, vI en, vR a12] [(.int nn), (.int 0), (.ref a12), (.int 0), (.ref bb)]) _
 refine w_iloadN (pc' := 22) X12 hx hby d6_21 rfl rfl ?_
 refine w_isub (pc' := 23) X12 hx hby d6_22 rfl ?_
 have r20 : (nn - (0 : Int32)) = nn := by simp
 rw [r20]
 show Rch p e below T12 (mkF m 23 #[vR bb, vI 0, vI en, vI en, vR a12] [(.int nn), (.int 0), (.ref a12), (.int 0), (.ref bb)]) _
 refine w_iloadN (pc' := 24) X12 hx hby d6_23 rfl rfl ?_
 obtain ⟨_, _, ⟨T21, L21, k21, n21⟩, -, X21, ⟨Lc21, hQ21, l21, y21, z21⟩, st21⟩ := Jvm.LawKit.callS X12 hx (y := y_6) hown (mvT hZ (wi hw 281 rfl)) (mvT hZ (wi hw 282 rfl)) (mvT hZ (wi hw 283 rfl)) (mvT hZ (wi hw 284 rfl)) (by decide) (backOf (W := 4) (rm_min32 l Z a0 hw [] nn en h12 n0 Z17 ) hZ (wi hw 284 rfl) (wi hw 283 rfl) (by decide) (by decide)) (g := (mkF m 24 #[vR bb, vI 0, vI en, vI en, vR a12] [(.int en), (.int nn), (.int 0), (.ref a12), (.int 0), (.ref bb)])) rfl (by rw [hml]; rfl) (argsL := [(.int nn), (.int en)]) (rest := [(.int 0), (.ref a12), (.int 0), (.ref bb)]) (lenOf pd__II_I rfl) rfl (by show 2 * 0 + _ ≤ _; exact Nat.le_of_eq rfl) (hb hby d6_24) (fun _ _ => ⟨rfl, e12, (by decide : 1 + 0 ≤ _), (by decide : 16 + 0 ≤ _)⟩)
 dsimp only [Pt.U, Pt.locs, Pt.cells, Pt.slots] at X21 l21 y21 z21 st21 hQ21
 subst l21 y21 z21
 obtain ⟨rfl, NQ21, K21⟩ := hQ21
 have N22 := Fr.app N10 NQ21
 refine Rch.st (fun _ k => st21 _ k) ?_
 show Rch p e below T21 (mkF m 27 #[vR bb, vI 0, vI en, vI en, vR a12] [(.int (own_min32 nn en)), (.int 0), (.ref a12), (.int 0), (.ref bb)]) _
 have r23 : (own_min32 nn en) = en := hm
 rw [r23]
 show Rch p e below T21 (mkF m 27 #[vR bb, vI 0, vI en, vI en, vR a12] [(.int en), (.int 0), (.ref a12), (.int 0), (.ref bb)]) _
 have f24 : Arv Z h12 a12 kc12 .byte en (([] : List Value) ++ List.replicate en.toNatClampNeg (Value.int (0 : Int32))) (Value.int (0 : Int32)) := f19.pad (pad_rep ([] : List Value) (Value.int (0 : Int32)) en.toNatClampNeg)
 obtain ⟨T25, h25, L25, X25, e25, N25, K25, V25, st25⟩ := cpA (us := (own_take vs dd en.toNatClampNeg)) X21 hx hZ hown (wi hw 285 rfl) (wi hw 237 rfl) (wi hw 235 rfl) (wi hw 236 rfl) K21 f16 f24 (Or.inl ⟨rfl, rfl⟩) (by decide) (by decide) (hz0) (by rw [own_z0, Nat.zero_add]; exact hl) (by rw [own_z0, Nat.zero_add]; exact Nat.le_refl _) (own_take_hus _ _ _) (by rw [own_z0]; simp) N22 ge14 (g := (mkF m 27 #[vR bb, vI 0, vI en, vI en, vR a12] [(.int en), (.int 0), (.ref a12), (.int 0), (.ref bb)])) rfl (by rw [hml]; rfl) rfl (hb hby d6_27) (by decide) (W := 0) (by show 2 * 0 + _ ≤ _; exact Nat.le_of_eq rfl) (by decide)
 have f26 := f16.keep K25 (ninS ne13 nin0)
 have Kp28 : Keep h0 h25 [] := Kp18.trans K25 (allS (Or.inr (Nat.le_trans K00.1 (Nat.le_of_eq g12.symm))) all0)
 have f29 : Arv Z h25 a12 kc12 .byte en (own_take vs dd en.toNatClampNeg) (Value.int (0 : Int32)) := by have z := V25; rw [show (([] : List Value) ++ List.replicate en.toNatClampNeg (Value.int (0 : Int32))).take (0 : Int32).toNatClampNeg ++ (own_take vs dd en.toNatClampNeg) ++ (([] : List Value) ++ List.replicate en.toNatClampNeg (Value.int (0 : Int32))).drop ((0 : Int32).toNatClampNeg + en.toNatClampNeg) = (own_take vs dd en.toNatClampNeg) from by rw [own_z0]; simp] at z; exact z
 refine Rch.st (fun _ k => st25 _ k) ?_
 show Rch p e below T25 (mkF m 30 #[vR bb, vI 0, vI en, vI en, vR a12] []) _
 refine w_aload (pc' := 32) X25 hx hby d6_30 rfl rfl rfl ?_
 exact Rch.retV X25 hx Bd.returns rfl (Or.inr (Or.inr (Or.inr (Or.inr ⟨rfl, rfl, rfl⟩)))) (hb hby d6_32) (by rw [e25]; exact ⟨a12, kc12, rfl, N25, Kp28, (Nat.le_trans K00.1 (Nat.le_of_eq g12.symm)), f29⟩) (by decide) (by decide)

abbrev c7 : ByteArray := jdk_65_method_132_code
theorem d7_0 : decode c7 0 = .ok (.iload_n 1, 1) := by decide +kernel
theorem d7_1 : decode c7 1 = .ok (.ifCond .ne 9, 3) := by decide +kernel
theorem d7_4 : decode c7 4 = .ok (.iload_n 2, 1) := by decide +kernel
theorem d7_5 : decode c7 5 = .ok (.aload_n 0, 1) := by decide +kernel
theorem d7_6 : decode c7 6 = .ok (.arraylength, 1) := by decide +kernel
theorem d7_7 : decode c7 7 = .ok (.if_icmp .eq 10, 3) := by decide +kernel
theorem d7_10 : decode c7 10 = .ok (.aload_n 0, 1) := by decide +kernel
theorem d7_11 : decode c7 11 = .ok (.iload_n 1, 1) := by decide +kernel
theorem d7_12 : decode c7 12 = .ok (.iload_n 2, 1) := by decide +kernel
theorem d7_13 : decode c7 13 = .ok (.invokestatic 339, 3) := by decide +kernel
theorem d7_16 : decode c7 16 = .ok (.areturn, 1) := by decide +kernel
theorem ef_rm_cr (m : MethodId) (bb : Addr) (kb : ClassId) (nn : Int32) (vs : List Value) (dd : Value) (en : Int32)  : entryFrame m #[(.ref bb), (.int (0 : Int32)), (.int en)] 3 = mkF m 0 #[vR bb, vI 0, vI en] [] := by  first | (simp [entryFrame, mkF, argsToLocals, Value.category, maxLocals]; done) | rfl
def Q_rm_cr (Z : State) (bb : Addr) (kb : ClassId) (nn : Int32) (vs : List Value) (dd : Value) (en : Int32) (h0 : Heap) (n0 : Nat) (v : Option Value) (h : Heap) (L : List Loc) : Prop := ∃ (t : Addr) (kt : ClassId), (v = some (.ref t)) ∧ (Fr n0 L) ∧ (Keep h0 h []) ∧ (h0.size ≤ t) ∧ (Arv Z h t kt .byte en (own_take vs dd en.toNatClampNeg) (.int (0 : Int32)))
theorem pd___BII__B : parseMethodDescriptor "([BII)[B" = some ⟨[(.array .byte), .int, .int], (some (.array .byte))⟩ := by decide +kernel
set_option maxRecDepth 65536 in
set_option maxHeartbeats 40000000 in
theorem rm_cr (l : Launch) (Z : State) (a0 : Array Value) (hw : ∀ d ∈ tables_1, d.before a0 Z = true) (ws : List Jvm.Cond) (bb : Addr) (kb : ClassId) (nn : Int32) (vs : List Value) (dd : Value) (en : Int32) (h0 : Heap) (n0 : Nat) (Z0 : n0 ≤ h0.size) (f0 : Arv Z h0 bb kb .byte nn vs dd) (hz0 : ¬ en < 0) (hc : en.toNatClampNeg ≤ 16) (hm : own_min32 nn en = en) (hl : en.toNatClampNeg ≤ nn.toNatClampNeg) (hne : ¬ en = nn) :
    MetN l Z y_9 c7 3 (some (.array .byte)) ws (Rm 2 1 16 34) #[(.ref bb), (.int (0 : Int32)), (.int en)] h0 (Q_rm_cr Z bb kb nn vs dd en h0 n0) := by
 refine MetFree.of_bodySF (plainFor_of_name pn_java_util_Arrays) hisR ?_
 intro p e s m args below meth c s₁ Bd hml0 hP hK
 obtain ⟨rfl, hZ, hh⟩ := hP
 have hx := Bd.exec
 have hby := Bd.bytes
 have hml : c.maxLocals = 3 := hml0
 have hown : s.vm.findClass "java/util/Arrays" = some m.cls := findClass_of_methodNamed Bd.named
 have X0 : Stand p l e (Rm 2 1 16 34) s m #[(.ref bb), (.int (0 : Int32)), (.int en)] below meth c s₁ [] 0 0 := Stand.of_body Bd
 have e0 : s₁.heap = h0 := by rw [← hh, Bd.state]; rfl
 have N0 := Fr.nil n0
 have K00 : Keep h0 h0 [] := Keep.refl _ _
 show Rch p e below s₁ (entryFrame m #[(.ref bb), (.int (0 : Int32)), (.int en)] 3) (FinP s (Q_rm_cr Z bb kb nn vs dd en h0 n0) 1 16)
 refine Rch.cast (ef_rm_cr m bb kb nn vs dd en) ?_
 show Rch p e below s₁ (mkF m 0 #[vR bb, vI 0, vI en] []) _
 refine w_iloadN (pc' := 1) X0 hx hby d7_0 rfl rfl ?_
 refine w_ifNo (pc' := 4) X0 hx hby d7_1 (XT.i0_ne_f (by decide)) rfl ?_
 refine w_iloadN (pc' := 5) X0 hx hby d7_4 rfl rfl ?_
 refine w_aloadN (pc' := 6) X0 hx hby d7_5 rfl rfl rfl ?_
 refine Rch.st (fun _ k => own_alen X0 hx hZ e0 f0 rfl rfl (hb hby d7_6) k) ?_
 show Rch p e below s₁ (mkF m 7 #[vR bb, vI 0, vI en] [(.int nn), (.int en)]) _
 refine w_icmpNo (pc' := 10) X0 hx hby d7_7 (XT.ii_eq_f (hne)) rfl ?_
 refine w_aloadN (pc' := 11) X0 hx hby d7_10 rfl rfl rfl ?_
 refine w_iloadN (pc' := 12) X0 hx hby d7_11 rfl rfl ?_
 refine w_iloadN (pc' := 13) X0 hx hby d7_12 rfl rfl ?_
 obtain ⟨_, _, ⟨T30, L30, k30, n30⟩, -, X30, ⟨Lc30, hQ30, l30, y30, z30⟩, st30⟩ := Jvm.LawKit.callS X0 hx (y := y_8) hown (mvT hZ (wi hw 275 rfl)) (mvT hZ (wi hw 276 rfl)) (mvT hZ (wi hw 273 rfl)) (mvT hZ (wi hw 277 rfl)) (by decide) (backOf (W := 0) (rm_crb l Z a0 hw [] bb kb nn vs dd en h0 n0 Z0 f0 (hz0) (hc) (hm) (hl)) hZ (wi hw 277 rfl) (wi hw 273 rfl) (by decide) (by decide)) (g := (mkF m 13 #[vR bb, vI 0, vI en] [(.int en), (.int 0), (.ref bb)])) rfl (by rw [hml]; rfl) (argsL := [(.ref bb), (.int 0), (.int en)]) (rest := []) (lenOf pd___BII__B rfl) rfl (by show 2 * 0 + _ ≤ _; exact Nat.le_of_eq rfl) (hb hby d7_13) (fun _ _ => ⟨rfl, e0, (by decide : 0 + 1 ≤ _), (by decide : 0 + 16 ≤ _)⟩)
 dsimp only [Pt.U, Pt.locs, Pt.cells, Pt.slots] at X30 l30 y30 z30 st30 hQ30
 subst l30 y30 z30
 obtain ⟨t_30, kt_30, rfl, NQ30, K30, pq30_0, fq30_0⟩ := hQ30
 have N31 := Fr.app N0 NQ30
 have f34 := f0.keep K30 nin0
 have Kp35 : Keep h0 T30.heap [] := K00.trans K30 all0
 refine Rch.st (fun _ k => st30 _ k) ?_
 show Rch p e below T30 (mkF m 16 #[vR bb, vI 0, vI en] [(.ref t_30)]) _
 exact Rch.retV X30 hx Bd.returns rfl (Or.inr (Or.inr (Or.inr (Or.inr ⟨rfl, rfl, rfl⟩)))) (hb hby d7_16) (by rw [(rfl : T30.heap = T30.heap)]; exact ⟨t_30, kt_30, rfl, N31, Kp35, (Nat.le_trans K00.1 pq30_0), fq30_0⟩) (by decide) (by decide)

abbrev c8 : ByteArray := jdk_68_method_2_code
theorem d8_0 : decode c8 0 = .ok (.aload_n 0, 1) := by decide +kernel
theorem d8_1 : decode c8 1 = .ok (.invokespecial 3, 3) := by decide +kernel
theorem d8_4 : decode c8 4 = .ok (.getstatic 18, 3) := by decide +kernel
theorem d8_7 : decode c8 7 = .ok (.ifCond .eq 18, 3) := by decide +kernel
theorem d8_10 : decode c8 10 = .ok (.aload_n 0, 1) := by decide +kernel
theorem d8_11 : decode c8 11 = .ok (.iload_n 1, 1) := by decide +kernel
theorem d8_12 : decode c8 12 = .ok (.newarray .byte, 2) := by decide +kernel
theorem d8_14 : decode c8 14 = .ok (.putfield 15, 3) := by decide +kernel
theorem d8_17 : decode c8 17 = .ok (.aload_n 0, 1) := by decide +kernel
theorem d8_18 : decode c8 18 = .ok (.iconst 0, 1) := by decide +kernel
theorem d8_19 : decode c8 19 = .ok (.putfield 22, 3) := by decide +kernel
theorem d8_22 : decode c8 22 = .ok (.goto 16, 3) := by decide +kernel
theorem d8_38 : decode c8 38 = .ok (.return_, 1) := by decide +kernel
theorem pn_java_lang_AbstractStringBuilder : plainName "java/lang/AbstractStringBuilder" = true := by first | (simp [plainName, overriddenIn]; done) | decide +kernel
theorem ef_rm_Ai (m : MethodId) (G1 : Int32) (sb : Addr)  : entryFrame m #[(.ref sb), (.int (16 : Int32))] 2 = mkF m 0 #[vR sb, vI 16] [] := by  first | (simp [entryFrame, mkF, argsToLocals, Value.category, maxLocals]; done) | rfl
def Q_rm_Ai (Z : State) (G1 : Int32) (sb : Addr) (h0 : Heap) (n0 : Nat) (v : Option Value) (h : Heap) (L : List Loc) : Prop := ∃ (t : Addr) (kt : ClassId), (v = none) ∧ (Fr n0 L) ∧ (Keep h0 h [sb]) ∧ (h0.size ≤ t) ∧ (Fld Z h sb "java/lang/AbstractStringBuilder" "value" "[B" (.ref t)) ∧ (Fld Z h sb "java/lang/AbstractStringBuilder" "coder" "B" (.int (0 : Int32))) ∧ (Fld Z h sb "java/lang/AbstractStringBuilder" "count" "I" (.int (0 : Int32))) ∧ (Arv Z h t kt .byte (16 : Int32) ([] : List Value) (Value.int (0 : Int32)))
set_option maxRecDepth 65536 in
set_option maxHeartbeats 40000000 in
theorem rm_Ai (l : Launch) (Z : State) (a0 : Array Value) (hw : ∀ d ∈ tables_1, d.before a0 Z = true) (ws : List Jvm.Cond) (G1 : Int32) (sb : Addr) (h0 : Heap) (n0 : Nat) (Z0 : n0 ≤ h0.size) (O2 : Sta Z Z.heap "java/lang/String" "COMPACT_STRINGS" "Z" (.int G1)) (P5 : ¬ G1 = 0) (f2 : Exa Z h0 sb "java/lang/StringBuilder") (f3 : Fld Z h0 sb "java/lang/AbstractStringBuilder" "value" "[B" .null) (f4 : Fld Z h0 sb "java/lang/AbstractStringBuilder" "coder" "B" (.int (0 : Int32))) (f5 : Fld Z h0 sb "java/lang/AbstractStringBuilder" "count" "I" (.int (0 : Int32))) (ga : n0 ≤ sb) (Old0 : OldL Z n0 h0) :
    MetN l Z y_10 c8 2 none ws (Rm 1 1 16 12) #[(.ref sb), (.int (16 : Int32))] h0 (Q_rm_Ai Z G1 sb h0 n0) := by
 refine MetFree.of_bodySF (plainFor_of_name pn_java_lang_AbstractStringBuilder) hisR ?_
 intro p e s m args below meth c s₁ Bd hml0 hP hK
 obtain ⟨rfl, hZ, hh⟩ := hP
 have hx := Bd.exec
 have hby := Bd.bytes
 have hml : c.maxLocals = 2 := hml0
 have hown : s.vm.findClass "java/lang/AbstractStringBuilder" = some m.cls := findClass_of_methodNamed Bd.named
 have X0 : Stand p l e (Rm 1 1 16 12) s m #[(.ref sb), (.int (16 : Int32))] below meth c s₁ [] 0 0 := Stand.of_body Bd
 have e0 : s₁.heap = h0 := by rw [← hh, Bd.state]; rfl
 have N0 := Fr.nil n0
 have K00 : Keep h0 h0 [sb] := Keep.refl _ _
 show Rch p e below s₁ (entryFrame m #[(.ref sb), (.int (16 : Int32))] 2) (FinP s (Q_rm_Ai Z G1 sb h0 n0) 1 16)
 refine Rch.cast (ef_rm_Ai m G1 sb) ?_
 show Rch p e below s₁ (mkF m 0 #[vR sb, vI 16] []) _
 refine w_aloadN (pc' := 1) X0 hx hby d8_0 rfl rfl rfl ?_
 obtain ⟨T37, X37, e37, st37⟩ := initO X0 hx hZ hown (wi hw 185 rfl) (wi hw 24 rfl) (wi hw 25 rfl) e0 (g := (mkF m 1 #[vR sb, vI 16] [(.ref sb)])) rfl (by rw [hml]; rfl) rfl (hb hby d8_1) (by decide) (W := 0) (by show 2 * 0 + _ ≤ _; exact Nat.le_of_eq rfl) (by decide)
 refine Rch.st (fun _ k => st37 _ k) ?_
 show Rch p e below T37 (mkF m 4 #[vR sb, vI 16] []) _
 obtain ⟨T38, X38, e38, st38⟩ := getS X37 hx hZ hown (host := "") (wi hw 186 rfl) Via.refl e37 (O2.ext Old0.2) (g := (mkF m 4 #[vR sb, vI 16] [])) rfl (hb hby d8_4)
 refine Rch.st (fun _ k => st38 _ k) ?_
 show Rch p e below T38 (mkF m 7 #[vR sb, vI 16] [(.int G1)]) _
 refine w_ifNo (pc' := 10) X38 hx hby d8_7 (XT.i0_eq_f (P5)) rfl ?_
 refine w_aloadN (pc' := 11) X38 hx hby d8_10 rfl rfl rfl ?_
 refine w_iloadN (pc' := 12) X38 hx hby d8_11 rfl rfl ?_
 obtain ⟨T39, h39, kc39, X39, e39, E39, A39, st39⟩ := newP X38 hx hZ (wi hw 18 rfl) e38 (g := (mkF m 12 #[vR sb, vI 16] [(.int 16), (.ref sb)])) rfl (hb hby d8_12) rfl (by decide) (cap := 16) (by decide) (by decide) (by decide) (by decide)
 obtain ⟨a39, g39⟩ : ∃ z, z = h0.size := ⟨_, rfl⟩
 rw [← g39] at A39 st39
 have ne40 : sb ≠ a39 := by rw [g39]; exact Nat.ne_of_lt f2.lt
 have f43 := f2.ext E39
 have f44 := f3.ext E39
 have f45 := f4.ext E39
 have f46 := f5.ext E39
 have Kp49 : Keep h0 h39 [sb] := K00.ext E39
 have f50 : Arv Z h39 a39 kc39 .byte (16 : Int32) ([] : List Value) (Value.int (0 : Int32)) := Arv.new A39 (by decide)
 refine Rch.st (fun _ k => st39 _ k) ?_
 show Rch p e below T39 (mkF m 14 #[vR sb, vI 16] [(.ref a39), (.ref sb)]) _
 obtain ⟨T51, h51, X51, e51, W51, st51⟩ := putF X39 hx hZ hown (host := "") (Or.inl (wi hw 187 rfl)) Via.refl e39 f44 f43 (Or.inl (wi hw 188 rfl)) (wi hw 174 rfl) (ty := (.array .byte)) (by decide) rfl rfl (g := (mkF m 14 #[vR sb, vI 16] [(.ref a39), (.ref sb)])) rfl rfl (hb hby d8_14)
 have N52 := Fr.snoc X51 N0 ga
 have f53 := f43.wr W51
 have f54 := f44.same W51
 have f55 := f45.other W51 (Or.inr (slot_ne (t := .byte) (t' := (.array .byte)) (Or.inl (wi hw 190 rfl)) (Or.inl (wi hw 188 rfl)) (by decide) (by decide) (by decide)))
 have f56 := f46.other W51 (Or.inr (slot_ne (t := .int) (t' := (.array .byte)) (Or.inl (wi hw 212 rfl)) (Or.inl (wi hw 188 rfl)) (by decide) (by decide) (by decide)))
 have f57 := f50.other W51 (Ne.symm ne40)
 have Kp60 : Keep h0 h51 [sb] := Kp49.wr W51 (Or.inl (List.mem_of_getElem? (i := 0) rfl))
 refine Rch.st (fun _ k => st51 _ k) ?_
 show Rch p e below T51 (mkF m 17 #[vR sb, vI 16] []) _
 refine w_aloadN (pc' := 18) X51 hx hby d8_17 rfl rfl rfl ?_
 refine w_iconst (pc' := 19) (v := 0) X51 hx hby d8_18 rfl rfl ?_
 obtain ⟨T61, h61, X61, e61, W61, st61⟩ := putF X51 hx hZ hown (host := "") (Or.inl (wi hw 189 rfl)) Via.refl e51 f55 f53 (Or.inl (wi hw 190 rfl)) (wi hw 174 rfl) (ty := .byte) (by decide) rfl rfl (g := (mkF m 19 #[vR sb, vI 16] [(.int 0), (.ref sb)])) rfl rfl (hb hby d8_19)
 have N62 := Fr.snoc X61 N52 ga
 have f64 := f54.other W61 (Or.inr (slot_ne (t := (.array .byte)) (t' := .byte) (Or.inl (wi hw 188 rfl)) (Or.inl (wi hw 190 rfl)) (by decide) (by decide) (by decide)))
 have f65 := f55.same W61
 have f66 := f56.other W61 (Or.inr (slot_ne (t := .int) (t' := .byte) (Or.inl (wi hw 212 rfl)) (Or.inl (wi hw 190 rfl)) (by decide) (by decide) (by decide)))
 have f67 := f57.other W61 (Ne.symm ne40)
 have Kp70 : Keep h0 h61 [sb] := Kp60.wr W61 (Or.inl (List.mem_of_getElem? (i := 0) rfl))
 refine Rch.st (fun _ k => st61 _ k) ?_
 show Rch p e below T61 (mkF m 22 #[vR sb, vI 16] []) _
 refine w_goto (pc' := 38) X61 hx hby d8_22 (by decide) ?_
 exact Rch.ret0 X61 hx Bd.returns (hb hby d8_38) (by rw [e61]; exact ⟨a39, kc39, rfl, N62, Kp70, (Nat.le_trans K00.1 (Nat.le_of_eq g39.symm)), f64, f65, f66, f67⟩) (by decide) (by decide)

abbrev c9 : ByteArray := jdk_67_method_1_code
theorem d9_0 : decode c9 0 = .ok (.aload_n 0, 1) := by decide +kernel
theorem d9_1 : decode c9 1 = .ok (.bipush 16, 2) := by decide +kernel
theorem d9_3 : decode c9 3 = .ok (.invokespecial 1, 3) := by decide +kernel
theorem d9_6 : decode c9 6 = .ok (.return_, 1) := by decide +kernel
theorem pn_java_lang_StringBuilder : plainName "java/lang/StringBuilder" = true := by first | (simp [plainName, overriddenIn]; done) | decide +kernel
theorem ef_rm_Bi (m : MethodId) (G1 : Int32) (sb : Addr)  : entryFrame m #[(.ref sb)] 1 = mkF m 0 #[vR sb] [] := by  first | (simp [entryFrame, mkF, argsToLocals, Value.category, maxLocals]; done) | rfl
def Q_rm_Bi (Z : State) (G1 : Int32) (sb : Addr) (h0 : Heap) (n0 : Nat) (v : Option Value) (h : Heap) (L : List Loc) : Prop := ∃ (t : Addr) (kt : ClassId), (v = none) ∧ (Fr n0 L) ∧ (Keep h0 h [sb]) ∧ (h0.size ≤ t) ∧ (Fld Z h sb "java/lang/AbstractStringBuilder" "value" "[B" (.ref t)) ∧ (Fld Z h sb "java/lang/AbstractStringBuilder" "coder" "B" (.int (0 : Int32))) ∧ (Fld Z h sb "java/lang/AbstractStringBuilder" "count" "I" (.int (0 : Int32))) ∧ (Arv Z h t kt .byte (16 : Int32) ([] : List Value) (Value.int (0 : Int32)))
theorem pd__I_V : parseMethodDescriptor "(I)V" = some ⟨[.int], none⟩ := by decide +kernel
set_option maxRecDepth 65536 in
set_option maxHeartbeats 40000000 in
theorem rm_Bi (l : Launch) (Z : State) (a0 : Array Value) (hw : ∀ d ∈ tables_1, d.before a0 Z = true) (ws : List Jvm.Cond) (G1 : Int32) (sb : Addr) (h0 : Heap) (n0 : Nat) (Z0 : n0 ≤ h0.size) (O2 : Sta Z Z.heap "java/lang/String" "COMPACT_STRINGS" "Z" (.int G1)) (P5 : ¬ G1 = 0) (f2 : Exa Z h0 sb "java/lang/StringBuilder") (f3 : Fld Z h0 sb "java/lang/AbstractStringBuilder" "value" "[B" .null) (f4 : Fld Z h0 sb "java/lang/AbstractStringBuilder" "coder" "B" (.int (0 : Int32))) (f5 : Fld Z h0 sb "java/lang/AbstractStringBuilder" "count" "I" (.int (0 : Int32))) (ga : n0 ≤ sb) (Old0 : OldL Z n0 h0) :
    MetN l Z y_11 c9 1 none ws (Rm 2 1 16 25) #[(.ref sb)] h0 (Q_rm_Bi Z G1 sb h0 n0) := by
 refine MetFree.of_bodySF (plainFor_of_name pn_java_lang_StringBuilder) hisR ?_
 intro p e s m args below meth c s₁ Bd hml0 hP hK
 obtain ⟨rfl, hZ, hh⟩ := hP
 have hx := Bd.exec
 have hby := Bd.bytes
 have hml : c.maxLocals = 1 := hml0
 have hown : s.vm.findClass "java/lang/StringBuilder" = some m.cls := findClass_of_methodNamed Bd.named
 have X0 : Stand p l e (Rm 2 1 16 25) s m #[(.ref sb)] below meth c s₁ [] 0 0 := Stand.of_body Bd
 have e0 : s₁.heap = h0 := by rw [← hh, Bd.state]; rfl
 have N0 := Fr.nil n0
 have K00 : Keep h0 h0 [sb] := Keep.refl _ _
 show Rch p e below s₁ (entryFrame m #[(.ref sb)] 1) (FinP s (Q_rm_Bi Z G1 sb h0 n0) 1 16)
 refine Rch.cast (ef_rm_Bi m G1 sb) ?_
 show Rch p e below s₁ (mkF m 0 #[vR sb] []) _
 refine w_aloadN (pc' := 1) X0 hx hby d9_0 rfl rfl rfl ?_
 refine w_bipush (pc' := 3) (v := 16) X0 hx hby d9_1 rfl rfl ?_
 obtain ⟨_, _, ⟨T71, L71, k71, n71⟩, -, X71, ⟨Lc71, hQ71, l71, y71, z71⟩, st71⟩ := X0.specialBack hx (y := y_10) rfl hown (mvT hZ (wi hw 179 rfl)) (mvT hZ (wi hw 180 rfl)) (mvT hZ (wi hw 184 rfl)) (by decide) (backOf (W := 0) (rm_Ai l Z a0 hw [] G1 sb h0 n0 Z0 (O2) (P5) f2 f3 f4 f5 (ga) Old0) hZ (wi hw 184 rfl) (wi hw 183 rfl) (by decide) (by decide)) (g := (mkF m 3 #[vR sb] [(.int 16), (.ref sb)])) rfl (by rw [hml]; rfl) (Steps.refl _) (a := sb) (argsL := [(.int 16)]) (rest := []) (lenOf pd__I_V rfl) rfl (by show 2 * 0 + _ ≤ _; exact Nat.le_of_eq rfl) (hb hby d9_3) (fun _ _ => ⟨rfl, e0, (by decide : 0 + 1 ≤ _), (by decide : 0 + 16 ≤ _)⟩)
 dsimp only [Pt.U, Pt.locs, Pt.cells, Pt.slots] at X71 l71 y71 z71 st71 hQ71
 subst l71 y71 z71
 obtain ⟨t_71, kt_71, rfl, NQ71, K71, pq71_0, fq71_0, fq71_1, fq71_2, fq71_3⟩ := hQ71
 have N72 := Fr.app N0 NQ71
 have Kp77 : Keep h0 T71.heap [sb] := K00.trans K71 (allS (Or.inl (List.mem_of_getElem? (i := 0) rfl)) all0)
 refine Rch.st (fun _ k => st71.trans k) ?_
 show Rch p e below T71 (mkF m 6 #[vR sb] []) _
 exact Rch.ret0 X71 hx Bd.returns (hb hby d9_6) (by rw [(rfl : T71.heap = T71.heap)]; exact ⟨t_71, kt_71, rfl, N72, Kp77, (Nat.le_trans K00.1 pq71_0), fq71_0, fq71_1, fq71_2, fq71_3⟩) (by decide) (by decide)

abbrev c10 : ByteArray := jdk_68_method_9_code
theorem d10_0 : decode c10 0 = .ok (.aload_n 0, 1) := by decide +kernel
theorem d10_1 : decode c10 1 = .ok (.getfield 15, 3) := by decide +kernel
theorem d10_4 : decode c10 4 = .ok (.arraylength, 1) := by decide +kernel
theorem d10_5 : decode c10 5 = .ok (.aload_n 0, 1) := by decide +kernel
theorem d10_6 : decode c10 6 = .ok (.getfield 22, 3) := by decide +kernel
theorem d10_9 : decode c10 9 = .ok (.ishr, 1) := by decide +kernel
theorem d10_10 : decode c10 10 = .ok (.istore_n 2, 1) := by decide +kernel
theorem d10_11 : decode c10 11 = .ok (.iload_n 1, 1) := by decide +kernel
theorem d10_12 : decode c10 12 = .ok (.iload_n 2, 1) := by decide +kernel
theorem d10_13 : decode c10 13 = .ok (.isub, 1) := by decide +kernel
theorem d10_14 : decode c10 14 = .ok (.ifCond .le 24, 3) := by decide +kernel
theorem d10_38 : decode c10 38 = .ok (.return_, 1) := by decide +kernel
theorem ef_rm_en (m : MethodId) (sb : Addr) (vb : Addr) (kv : ClassId) (kk : Int32) (pre : List Value) (mm : Int32)  : entryFrame m #[(.ref sb), (.int mm)] 3 = mkF m 0 #[vR sb, vI mm, U] [] := by  first | (simp [entryFrame, mkF, argsToLocals, Value.category, maxLocals]; done) | rfl
def Q_rm_en (Z : State) (sb : Addr) (vb : Addr) (kv : ClassId) (kk : Int32) (pre : List Value) (mm : Int32) (h0 : Heap) (n0 : Nat) (v : Option Value) (h : Heap) (L : List Loc) : Prop := (v = none) ∧ (Fr n0 L) ∧ (h = h0)
set_option maxRecDepth 65536 in
set_option maxHeartbeats 40000000 in
theorem rm_en (l : Launch) (Z : State) (a0 : Array Value) (hw : ∀ d ∈ tables_1, d.before a0 Z = true) (ws : List Jvm.Cond) (sb : Addr) (vb : Addr) (kv : ClassId) (kk : Int32) (pre : List Value) (mm : Int32) (h0 : Heap) (n0 : Nat) (Z0 : n0 ≤ h0.size) (f0 : Exa Z h0 sb "java/lang/StringBuilder") (f1 : Fld Z h0 sb "java/lang/AbstractStringBuilder" "value" "[B" (.ref vb)) (f2 : Fld Z h0 sb "java/lang/AbstractStringBuilder" "coder" "B" (.int (0 : Int32))) (f3 : Fld Z h0 sb "java/lang/AbstractStringBuilder" "count" "I" (.int kk)) (f4 : Arv Z h0 vb kv .byte (16 : Int32) pre (Value.int (0 : Int32))) (hcap : ¬ (0 : Int32) < (mm - (16 : Int32))) :
    MetN l Z y_12 c10 3 none ws (Rm 0 0 0 0) #[(.ref sb), (.int mm)] h0 (Q_rm_en Z sb vb kv kk pre mm h0 n0) := by
 refine MetFree.of_bodySF (plainFor_of_name pn_java_lang_AbstractStringBuilder) hisR ?_
 intro p e s m args below meth c s₁ Bd hml0 hP hK
 obtain ⟨rfl, hZ, hh⟩ := hP
 have hx := Bd.exec
 have hby := Bd.bytes
 have hml : c.maxLocals = 3 := hml0
 have hown : s.vm.findClass "java/lang/AbstractStringBuilder" = some m.cls := findClass_of_methodNamed Bd.named
 have X0 : Stand p l e (Rm 0 0 0 0) s m #[(.ref sb), (.int mm)] below meth c s₁ [] 0 0 := Stand.of_body Bd
 have e0 : s₁.heap = h0 := by rw [← hh, Bd.state]; rfl
 have N0 := Fr.nil n0
 have K00 : Keep h0 h0 [] := Keep.refl _ _
 show Rch p e below s₁ (entryFrame m #[(.ref sb), (.int mm)] 3) (FinP s (Q_rm_en Z sb vb kv kk pre mm h0 n0) 0 0)
 refine Rch.cast (ef_rm_en m sb vb kv kk pre mm) ?_
 show Rch p e below s₁ (mkF m 0 #[vR sb, vI mm, U] []) _
 refine w_aloadN (pc' := 1) X0 hx hby d10_0 rfl rfl rfl ?_
 obtain ⟨T79, X79, e79, st79⟩ := getF X0 hx hZ hown (host := "") (Or.inl (wi hw 187 rfl)) Via.refl e0 f1 (g := (mkF m 1 #[vR sb, vI mm, U] [(.ref sb)])) rfl rfl (hb hby d10_1)
 refine Rch.st (fun _ k => st79 _ k) ?_
 show Rch p e below T79 (mkF m 4 #[vR sb, vI mm, U] [(.ref vb)]) _
 refine Rch.st (fun _ k => own_alen X79 hx hZ e79 f4 rfl rfl (hb hby d10_4) k) ?_
 show Rch p e below T79 (mkF m 5 #[vR sb, vI mm, U] [(.int 16)]) _
 refine w_aloadN (pc' := 6) X79 hx hby d10_5 rfl rfl rfl ?_
 obtain ⟨T80, X80, e80, st80⟩ := getF X79 hx hZ hown (host := "") (Or.inl (wi hw 189 rfl)) Via.refl e79 f2 (g := (mkF m 6 #[vR sb, vI mm, U] [(.ref sb), (.int 16)])) rfl rfl (hb hby d10_6)
 refine Rch.st (fun _ k => st80 _ k) ?_
 show Rch p e below T80 (mkF m 9 #[vR sb, vI mm, U] [(.int 0), (.int 16)]) _
 refine w_ishr (pc' := 10) X80 hx hby d10_9 rfl ?_
 have r81 : ((16 : Int32) >>> ((0 : Int32) &&& 31)) = (16 : Int32) := by decide
 rw [r81]
 show Rch p e below T80 (mkF m 10 #[vR sb, vI mm, U] [(.int 16)]) _
 refine w_istoreN (pc' := 11) (l' := #[vR sb, vI mm, vI 16]) X80 hx hby d10_10 rfl rfl ?_
 refine w_iloadN (pc' := 12) X80 hx hby d10_11 rfl rfl ?_
 refine w_iloadN (pc' := 13) X80 hx hby d10_12 rfl rfl ?_
 refine w_isub (pc' := 14) X80 hx hby d10_13 rfl ?_
 refine w_ifYes (pc' := 38) X80 hx hby d10_14 (XT.i0_le_t (hcap)) (by decide) ?_
 exact Rch.ret0 X80 hx Bd.returns (hb hby d10_38) (by rw [e80]; exact ⟨rfl, N0, rfl⟩) (by decide) (by decide)

abbrev c11 : ByteArray := jdk_68_method_71_code
theorem d11_0 : decode c11 0 = .ok (.getstatic 18, 3) := by decide +kernel
theorem d11_3 : decode c11 3 = .ok (.ifCond .eq 18, 3) := by decide +kernel
theorem d11_6 : decode c11 6 = .ok (.aload_n 0, 1) := by decide +kernel
theorem d11_7 : decode c11 7 = .ok (.getfield 22, 3) := by decide +kernel
theorem d11_10 : decode c11 10 = .ok (.aload_n 1, 1) := by decide +kernel
theorem d11_11 : decode c11 11 = .ok (.invokevirtual 40, 3) := by decide +kernel
theorem d11_14 : decode c11 14 = .ok (.if_icmp .eq 7, 3) := by decide +kernel
theorem d11_21 : decode c11 21 = .ok (.return_, 1) := by decide +kernel
theorem ef_rm_inf (m : MethodId) (G1 : Int32) (sb : Addr) (vb : Addr) (kv : ClassId) (kk : Int32) (pre : List Value) (sa : Addr) (bb : Addr) (kb : ClassId) (nn : Int32) (vs : List Value) (dd : Value)  : entryFrame m #[(.ref sb), (.ref sa)] 2 = mkF m 0 #[vR sb, vR sa] [] := by  first | (simp [entryFrame, mkF, argsToLocals, Value.category, maxLocals]; done) | rfl
def Q_rm_inf (Z : State) (G1 : Int32) (sb : Addr) (vb : Addr) (kv : ClassId) (kk : Int32) (pre : List Value) (sa : Addr) (bb : Addr) (kb : ClassId) (nn : Int32) (vs : List Value) (dd : Value) (h0 : Heap) (n0 : Nat) (v : Option Value) (h : Heap) (L : List Loc) : Prop := (v = none) ∧ (Fr n0 L) ∧ (h = h0)
set_option maxRecDepth 65536 in
set_option maxHeartbeats 40000000 in
theorem rm_inf (l : Launch) (Z : State) (a0 : Array Value) (hw : ∀ d ∈ tables_1, d.before a0 Z = true) (ws : List Jvm.Cond) (G1 : Int32) (sb : Addr) (vb : Addr) (kv : ClassId) (kk : Int32) (pre : List Value) (sa : Addr) (bb : Addr) (kb : ClassId) (nn : Int32) (vs : List Value) (dd : Value) (h0 : Heap) (n0 : Nat) (Z0 : n0 ≤ h0.size) (O2 : Sta Z Z.heap "java/lang/String" "COMPACT_STRINGS" "Z" (.int G1)) (P5 : ¬ G1 = 0) (f2 : Exa Z h0 sb "java/lang/StringBuilder") (f3 : Fld Z h0 sb "java/lang/AbstractStringBuilder" "value" "[B" (.ref vb)) (f4 : Fld Z h0 sb "java/lang/AbstractStringBuilder" "coder" "B" (.int (0 : Int32))) (f5 : Fld Z h0 sb "java/lang/AbstractStringBuilder" "count" "I" (.int kk)) (f6 : Arv Z h0 vb kv .byte (16 : Int32) pre (Value.int (0 : Int32))) (f7 : Exa Z h0 sa "java/lang/String") (f8 : Fld Z h0 sa "java/lang/String" "coder" "B" (.int (0 : Int32))) (f9 : Fld Z h0 sa "java/lang/String" "value" "[B" (.ref bb)) (f10 : Arv Z h0 bb kb .byte nn vs dd) (Old0 : OldL Z n0 h0) :
    MetN l Z y_13 c11 2 none ws (Rm 1 0 0 13) #[(.ref sb), (.ref sa)] h0 (Q_rm_inf Z G1 sb vb kv kk pre sa bb kb nn vs dd h0 n0) := by
 refine MetFree.of_bodySF (plainFor_of_name pn_java_lang_AbstractStringBuilder) hisR ?_
 intro p e s m args below meth c s₁ Bd hml0 hP hK
 obtain ⟨rfl, hZ, hh⟩ := hP
 have hx := Bd.exec
 have hby := Bd.bytes
 have hml : c.maxLocals = 2 := hml0
 have hown : s.vm.findClass "java/lang/AbstractStringBuilder" = some m.cls := findClass_of_methodNamed Bd.named
 have X0 : Stand p l e (Rm 1 0 0 13) s m #[(.ref sb), (.ref sa)] below meth c s₁ [] 0 0 := Stand.of_body Bd
 have e0 : s₁.heap = h0 := by rw [← hh, Bd.state]; rfl
 have N0 := Fr.nil n0
 have K00 : Keep h0 h0 [] := Keep.refl _ _
 show Rch p e below s₁ (entryFrame m #[(.ref sb), (.ref sa)] 2) (FinP s (Q_rm_inf Z G1 sb vb kv kk pre sa bb kb nn vs dd h0 n0) 0 0)
 refine Rch.cast (ef_rm_inf m G1 sb vb kv kk pre sa bb kb nn vs dd) ?_
 show Rch p e below s₁ (mkF m 0 #[vR sb, vR sa] []) _
 obtain ⟨T82, X82, e82, st82⟩ := getS X0 hx hZ hown (host := "") (wi hw 186 rfl) Via.refl e0 (O2.ext Old0.2) (g := (mkF m 0 #[vR sb, vR sa] [])) rfl (hb hby d11_0)
 refine Rch.st (fun _ k => st82 _ k) ?_
 show Rch p e below T82 (mkF m 3 #[vR sb, vR sa] [(.int G1)]) _
 refine w_ifNo (pc' := 6) X82 hx hby d11_3 (XT.i0_eq_f (P5)) rfl ?_
 refine w_aloadN (pc' := 7) X82 hx hby d11_6 rfl rfl rfl ?_
 obtain ⟨T83, X83, e83, st83⟩ := getF X82 hx hZ hown (host := "") (Or.inl (wi hw 189 rfl)) Via.refl e82 f4 (g := (mkF m 7 #[vR sb, vR sa] [(.ref sb)])) rfl rfl (hb hby d11_7)
 refine Rch.st (fun _ k => st83 _ k) ?_
 show Rch p e below T83 (mkF m 10 #[vR sb, vR sa] [(.int 0)]) _
 refine w_aloadN (pc' := 11) X83 hx hby d11_10 rfl rfl rfl ?_
 obtain ⟨cq84, kq84, q84a, q84b, q84c⟩ := isOf hZ e83 f7
 obtain ⟨_, _, ⟨T84, L84, k84, n84⟩, -, X84, ⟨Lc84, hQ84, l84, y84, z84⟩, st84⟩ := X83.virtualBack hx (y := y_2) (z := y_2) hown (mvT hZ (wi hw 228 rfl)) (mvT hZ (wi hw 207 rfl)) (notFace_of_selects (args := #[]) (mvT hZ (wi hw 209 rfl))) (mvT hZ (wi hw 209 rfl)) (mvT hZ (wi hw 208 rfl)) (by decide) (backOf (W := 1) (rm_coder l Z a0 hw [] G1 sa 0 h0 n0 Z0 (O2) (P5) f8 (Or.inl rfl) Old0) hZ (wi hw 210 rfl) (wi hw 6 rfl) (by decide) (by decide)) q84a q84c (g := (mkF m 11 #[vR sb, vR sa] [(.ref sa), (.int 0)])) rfl (by rw [hml]; rfl) (Steps.refl _) (argsL := []) (rest := [(.int 0)]) (lenOf pd___B rfl) rfl (by show 2 * 0 + _ ≤ _; exact Nat.le_of_eq rfl) (hb hby d11_11) (fun _ _ => ⟨rfl, e83, (by decide : 0 + 0 ≤ _), (by decide : 0 + 0 ≤ _)⟩)
 dsimp only [Pt.U, Pt.locs, Pt.cells, Pt.slots] at X84 l84 y84 z84 st84 hQ84
 subst l84 y84 z84
 obtain ⟨rfl, NQ84, K84⟩ := hQ84
 have N85 := Fr.app N0 NQ84
 refine Rch.st (fun _ k => st84.trans k) ?_
 show Rch p e below T84 (mkF m 14 #[vR sb, vR sa] [(.int 0), (.int 0)]) _
 refine w_icmpYes (pc' := 21) X84 hx hby d11_14 (XT.ii_eq_t (rfl)) (by decide) ?_
 exact Rch.ret0 X84 hx Bd.returns (hb hby d11_21) (by rw [K84]; exact ⟨rfl, N85, rfl⟩) (by decide) (by decide)

abbrev c12 : ByteArray := jdk_42_method_147_code
theorem d12_0 : decode c12 0 = .ok (.aload_n 0, 1) := by decide +kernel
theorem d12_1 : decode c12 1 = .ok (.invokevirtual 335, 3) := by decide +kernel
theorem d12_4 : decode c12 4 = .ok (.iload_n 3, 1) := by decide +kernel
theorem d12_5 : decode c12 5 = .ok (.if_icmp .ne 23, 3) := by decide +kernel
theorem d12_8 : decode c12 8 = .ok (.aload_n 0, 1) := by decide +kernel
theorem d12_9 : decode c12 9 = .ok (.getfield 9, 3) := by decide +kernel
theorem d12_12 : decode c12 12 = .ok (.iconst 0, 1) := by decide +kernel
theorem d12_13 : decode c12 13 = .ok (.aload_n 1, 1) := by decide +kernel
theorem d12_14 : decode c12 14 = .ok (.iload_n 2, 1) := by decide +kernel
theorem d12_15 : decode c12 15 = .ok (.iload_n 3, 1) := by decide +kernel
theorem d12_16 : decode c12 16 = .ok (.ishl, 1) := by decide +kernel
theorem d12_17 : decode c12 17 = .ok (.aload_n 0, 1) := by decide +kernel
theorem d12_18 : decode c12 18 = .ok (.getfield 9, 3) := by decide +kernel
theorem d12_21 : decode c12 21 = .ok (.arraylength, 1) := by decide +kernel
theorem d12_22 : decode c12 22 = .ok (.invokestatic 212, 3) := by decide +kernel
theorem d12_25 : decode c12 25 = .ok (.goto 18, 3) := by decide +kernel
theorem d12_43 : decode c12 43 = .ok (.return_, 1) := by decide +kernel
theorem ef_rm_gb (m : MethodId) (G1 : Int32) (vb : Addr) (kv : ClassId) (kk : Int32) (pre : List Value) (sa : Addr) (bb : Addr) (kb : ClassId) (nn : Int32) (vs : List Value) (dd : Value)  : entryFrame m #[(.ref sa), (.ref vb), (.int kk), (.int (0 : Int32))] 4 = mkF m 0 #[vR sa, vR vb, vI kk, vI 0] [] := by  first | (simp [entryFrame, mkF, argsToLocals, Value.category, maxLocals]; done) | rfl
def Q_rm_gb (Z : State) (G1 : Int32) (vb : Addr) (kv : ClassId) (kk : Int32) (pre : List Value) (sa : Addr) (bb : Addr) (kb : ClassId) (nn : Int32) (vs : List Value) (dd : Value) (h0 : Heap) (n0 : Nat) (v : Option Value) (h : Heap) (L : List Loc) : Prop := (v = none) ∧ (Fr n0 L) ∧ (Keep h0 h [vb]) ∧ (Arv Z h vb kv .byte (16 : Int32) (pre ++ own_take vs dd nn.toNatClampNeg) (Value.int (0 : Int32)))
set_option maxRecDepth 65536 in
set_option maxHeartbeats 40000000 in
theorem rm_gb (l : Launch) (Z : State) (a0 : Array Value) (hw : ∀ d ∈ tables_1, d.before a0 Z = true) (ws : List Jvm.Cond) (G1 : Int32) (vb : Addr) (kv : ClassId) (kk : Int32) (pre : List Value) (sa : Addr) (bb : Addr) (kb : ClassId) (nn : Int32) (vs : List Value) (dd : Value) (h0 : Heap) (n0 : Nat) (Z0 : n0 ≤ h0.size) (O2 : Sta Z Z.heap "java/lang/String" "COMPACT_STRINGS" "Z" (.int G1)) (P5 : ¬ G1 = 0) (f2 : Arv Z h0 vb kv .byte (16 : Int32) pre (Value.int (0 : Int32))) (f3 : Exa Z h0 sa "java/lang/String") (f4 : Fld Z h0 sa "java/lang/String" "coder" "B" (.int (0 : Int32))) (f5 : Fld Z h0 sa "java/lang/String" "value" "[B" (.ref bb)) (f6 : Arv Z h0 bb kb .byte nn vs dd) (hk0 : ¬ kk < 0) (hn0 : ¬ nn < 0) (hkl : kk.toNatClampNeg = pre.length) (h16 : pre.length + nn.toNatClampNeg ≤ 16) (gb : n0 ≤ vb) (q1 : bb ≠ vb) (q5 : sa ≠ vb) (Old0 : OldL Z n0 h0) :
    MetN l Z y_14 c12 4 none ws (Rm 1 0 0 18) #[(.ref sa), (.ref vb), (.int kk), (.int (0 : Int32))] h0 (Q_rm_gb Z G1 vb kv kk pre sa bb kb nn vs dd h0 n0) := by
 refine MetFree.of_bodySF (plainFor_of_name pn_java_lang_String) hisR ?_
 intro p e s m args below meth c s₁ Bd hml0 hP hK
 obtain ⟨rfl, hZ, hh⟩ := hP
 have hx := Bd.exec
 have hby := Bd.bytes
 have hml : c.maxLocals = 4 := hml0
 have hown : s.vm.findClass "java/lang/String" = some m.cls := findClass_of_methodNamed Bd.named
 have X0 : Stand p l e (Rm 1 0 0 18) s m #[(.ref sa), (.ref vb), (.int kk), (.int (0 : Int32))] below meth c s₁ [] 0 0 := Stand.of_body Bd
 have e0 : s₁.heap = h0 := by rw [← hh, Bd.state]; rfl
 have N0 := Fr.nil n0
 have K00 : Keep h0 h0 [vb] := Keep.refl _ _
 show Rch p e below s₁ (entryFrame m #[(.ref sa), (.ref vb), (.int kk), (.int (0 : Int32))] 4) (FinP s (Q_rm_gb Z G1 vb kv kk pre sa bb kb nn vs dd h0 n0) 0 0)
 refine Rch.cast (ef_rm_gb m G1 vb kv kk pre sa bb kb nn vs dd) ?_
 show Rch p e below s₁ (mkF m 0 #[vR sa, vR vb, vI kk, vI 0] []) _
 refine w_aloadN (pc' := 1) X0 hx hby d12_0 rfl rfl rfl ?_
 obtain ⟨cq86, kq86, q86a, q86b, q86c⟩ := isOf hZ e0 f3
 obtain ⟨_, _, ⟨T86, L86, k86, n86⟩, -, X86, ⟨Lc86, hQ86, l86, y86, z86⟩, st86⟩ := X0.virtualBack hx (y := y_2) (z := y_2) hown (mvT hZ (wi hw 206 rfl)) (mvT hZ (wi hw 207 rfl)) (notFace_of_selects (args := #[]) (mvT hZ (wi hw 209 rfl))) (mvT hZ (wi hw 209 rfl)) (mvT hZ (wi hw 208 rfl)) (by decide) (backOf (W := 0) (rm_coder l Z a0 hw [] G1 sa 0 h0 n0 Z0 (O2) (P5) f4 (Or.inl rfl) Old0) hZ (wi hw 210 rfl) (wi hw 6 rfl) (by decide) (by decide)) q86a q86c (g := (mkF m 1 #[vR sa, vR vb, vI kk, vI 0] [(.ref sa)])) rfl (by rw [hml]; rfl) (Steps.refl _) (argsL := []) (rest := []) (lenOf pd___B rfl) rfl (by show 2 * 0 + _ ≤ _; exact Nat.le_of_eq rfl) (hb hby d12_1) (fun _ _ => ⟨rfl, e0, (by decide : 0 + 0 ≤ _), (by decide : 0 + 0 ≤ _)⟩)
 dsimp only [Pt.U, Pt.locs, Pt.cells, Pt.slots] at X86 l86 y86 z86 st86 hQ86
 subst l86 y86 z86
 obtain ⟨rfl, NQ86, K86⟩ := hQ86
 have N87 := Fr.app N0 NQ86
 refine Rch.st (fun _ k => st86.trans k) ?_
 show Rch p e below T86 (mkF m 4 #[vR sa, vR vb, vI kk, vI 0] [(.int 0)]) _
 refine w_iloadN (pc' := 5) X86 hx hby d12_4 rfl rfl ?_
 refine w_icmpNo (pc' := 8) X86 hx hby d12_5 (XT.ii_ne_f (rfl)) rfl ?_
 refine w_aloadN (pc' := 9) X86 hx hby d12_8 rfl rfl rfl ?_
 obtain ⟨T88, X88, e88, st88⟩ := getF X86 hx hZ hown (host := "") (Or.inl (wi hw 26 rfl)) Via.refl K86 f5 (g := (mkF m 9 #[vR sa, vR vb, vI kk, vI 0] [(.ref sa)])) rfl rfl (hb hby d12_9)
 refine Rch.st (fun _ k => st88 _ k) ?_
 show Rch p e below T88 (mkF m 12 #[vR sa, vR vb, vI kk, vI 0] [(.ref bb)]) _
 refine w_iconst (pc' := 13) (v := 0) X88 hx hby d12_12 rfl rfl ?_
 refine w_aloadN (pc' := 14) X88 hx hby d12_13 rfl rfl rfl ?_
 refine w_iloadN (pc' := 15) X88 hx hby d12_14 rfl rfl ?_
 refine w_iloadN (pc' := 16) X88 hx hby d12_15 rfl rfl ?_
 refine w_ishl (pc' := 17) X88 hx hby d12_16 rfl ?_
 have r89 : (kk <<< ((0 : Int32) &&& 31)) = kk := own_sl0 kk
 rw [r89]
 show Rch p e below T88 (mkF m 17 #[vR sa, vR vb, vI kk, vI 0] [(.int kk), (.ref vb), (.int 0), (.ref bb)]) _
 refine w_aloadN (pc' := 18) X88 hx hby d12_17 rfl rfl rfl ?_
 obtain ⟨T90, X90, e90, st90⟩ := getF X88 hx hZ hown (host := "") (Or.inl (wi hw 26 rfl)) Via.refl e88 f5 (g := (mkF m 18 #[vR sa, vR vb, vI kk, vI 0] [(.ref sa), (.int kk), (.ref vb), (.int 0), (.ref bb)])) rfl rfl (hb hby d12_18)
 refine Rch.st (fun _ k => st90 _ k) ?_
 show Rch p e below T90 (mkF m 21 #[vR sa, vR vb, vI kk, vI 0] [(.ref bb), (.int kk), (.ref vb), (.int 0), (.ref bb)]) _
 refine Rch.st (fun _ k => own_alen X90 hx hZ e90 f6 rfl rfl (hb hby d12_21) k) ?_
 show Rch p e below T90 (mkF m 22 #[vR sa, vR vb, vI kk, vI 0] [(.int nn), (.int kk), (.ref vb), (.int 0), (.ref bb)]) _
 have f91 : Arv Z h0 vb kv .byte (16 : Int32) (pre ++ List.replicate nn.toNatClampNeg (Value.int (0 : Int32))) (Value.int (0 : Int32)) := f2.pad (pad_rep pre (Value.int (0 : Int32)) nn.toNatClampNeg)
 obtain ⟨T92, h92, L92, X92, e92, N92, K92, V92, st92⟩ := cpA (us := (own_take vs dd nn.toNatClampNeg)) X90 hx hZ hown (wi hw 234 rfl) (wi hw 237 rfl) (wi hw 235 rfl) (wi hw 236 rfl) e90 f6 f91 (Or.inl ⟨rfl, rfl⟩) (by decide) (hk0) (hn0) (by rw [own_z0, Nat.zero_add]; exact Nat.le_refl _) (by rw [own_16, hkl]; exact h16) (own_take_hus _ _ _) (by rw [hkl]; simp) N87 gb (g := (mkF m 22 #[vR sa, vR vb, vI kk, vI 0] [(.int nn), (.int kk), (.ref vb), (.int 0), (.ref bb)])) rfl (by rw [hml]; rfl) rfl (hb hby d12_22) (by decide) (W := 0) (by show 2 * 0 + _ ≤ _; exact Nat.le_of_eq rfl) (by decide)
 have Kp99 : Keep h0 h92 [vb] := K00.trans K92 (allS (Or.inl (List.mem_of_getElem? (i := 0) rfl)) all0)
 have f100 : Arv Z h92 vb kv .byte (16 : Int32) (pre ++ own_take vs dd nn.toNatClampNeg) (Value.int (0 : Int32)) := by have z := V92; rw [show (pre ++ List.replicate nn.toNatClampNeg (Value.int (0 : Int32))).take kk.toNatClampNeg ++ (own_take vs dd nn.toNatClampNeg) ++ (pre ++ List.replicate nn.toNatClampNeg (Value.int (0 : Int32))).drop (kk.toNatClampNeg + nn.toNatClampNeg) = (pre ++ own_take vs dd nn.toNatClampNeg) from by rw [hkl]; simp] at z; exact z
 refine Rch.st (fun _ k => st92 _ k) ?_
 show Rch p e below T92 (mkF m 25 #[vR sa, vR vb, vI kk, vI 0] []) _
 refine w_goto (pc' := 43) X92 hx hby d12_25 (by decide) ?_
 exact Rch.ret0 X92 hx Bd.returns (hb hby d12_43) (by rw [e92]; exact ⟨rfl, N92, Kp99, f100⟩) (by decide) (by decide)

abbrev c13 : ByteArray := jdk_68_method_73_code
theorem d13_0 : decode c13 0 = .ok (.aload_n 0, 1) := by decide +kernel
theorem d13_1 : decode c13 1 = .ok (.aload_n 2, 1) := by decide +kernel
theorem d13_2 : decode c13 2 = .ok (.invokevirtual 397, 3) := by decide +kernel
theorem d13_5 : decode c13 5 = .ok (.aload_n 2, 1) := by decide +kernel
theorem d13_6 : decode c13 6 = .ok (.aload_n 0, 1) := by decide +kernel
theorem d13_7 : decode c13 7 = .ok (.getfield 15, 3) := by decide +kernel
theorem d13_10 : decode c13 10 = .ok (.iload_n 1, 1) := by decide +kernel
theorem d13_11 : decode c13 11 = .ok (.aload_n 0, 1) := by decide +kernel
theorem d13_12 : decode c13 12 = .ok (.getfield 22, 3) := by decide +kernel
theorem d13_15 : decode c13 15 = .ok (.invokevirtual 399, 3) := by decide +kernel
theorem d13_18 : decode c13 18 = .ok (.return_, 1) := by decide +kernel
theorem ef_rm_psa (m : MethodId) (G1 : Int32) (sb : Addr) (vb : Addr) (kv : ClassId) (kk : Int32) (pre : List Value) (sa : Addr) (bb : Addr) (kb : ClassId) (nn : Int32) (vs : List Value) (dd : Value)  : entryFrame m #[(.ref sb), (.int kk), (.ref sa)] 3 = mkF m 0 #[vR sb, vI kk, vR sa] [] := by  first | (simp [entryFrame, mkF, argsToLocals, Value.category, maxLocals]; done) | rfl
def Q_rm_psa (Z : State) (G1 : Int32) (sb : Addr) (vb : Addr) (kv : ClassId) (kk : Int32) (pre : List Value) (sa : Addr) (bb : Addr) (kb : ClassId) (nn : Int32) (vs : List Value) (dd : Value) (h0 : Heap) (n0 : Nat) (v : Option Value) (h : Heap) (L : List Loc) : Prop := (v = none) ∧ (Fr n0 L) ∧ (Keep h0 h [vb]) ∧ (Arv Z h vb kv .byte (16 : Int32) (pre ++ own_take vs dd nn.toNatClampNeg) (Value.int (0 : Int32)))
theorem pd__Ljava_lang_String__V : parseMethodDescriptor "(Ljava/lang/String;)V" = some ⟨[(.object "java/lang/String")], none⟩ := by decide +kernel
theorem pd___BIB_V : parseMethodDescriptor "([BIB)V" = some ⟨[(.array .byte), .int, .byte], none⟩ := by decide +kernel
set_option maxRecDepth 65536 in
set_option maxHeartbeats 40000000 in
theorem rm_psa (l : Launch) (Z : State) (a0 : Array Value) (hw : ∀ d ∈ tables_1, d.before a0 Z = true) (ws : List Jvm.Cond) (G1 : Int32) (sb : Addr) (vb : Addr) (kv : ClassId) (kk : Int32) (pre : List Value) (sa : Addr) (bb : Addr) (kb : ClassId) (nn : Int32) (vs : List Value) (dd : Value) (h0 : Heap) (n0 : Nat) (Z0 : n0 ≤ h0.size) (O2 : Sta Z Z.heap "java/lang/String" "COMPACT_STRINGS" "Z" (.int G1)) (P5 : ¬ G1 = 0) (f2 : Exa Z h0 sb "java/lang/StringBuilder") (f3 : Fld Z h0 sb "java/lang/AbstractStringBuilder" "value" "[B" (.ref vb)) (f4 : Fld Z h0 sb "java/lang/AbstractStringBuilder" "coder" "B" (.int (0 : Int32))) (f5 : Fld Z h0 sb "java/lang/AbstractStringBuilder" "count" "I" (.int kk)) (f6 : Arv Z h0 vb kv .byte (16 : Int32) pre (Value.int (0 : Int32))) (f7 : Exa Z h0 sa "java/lang/String") (f8 : Fld Z h0 sa "java/lang/String" "coder" "B" (.int (0 : Int32))) (f9 : Fld Z h0 sa "java/lang/String" "value" "[B" (.ref bb)) (f10 : Arv Z h0 bb kb .byte nn vs dd) (hk0 : ¬ kk < 0) (hn0 : ¬ nn < 0) (hkl : kk.toNatClampNeg = pre.length) (h16 : pre.length + nn.toNatClampNeg ≤ 16) (gb : n0 ≤ vb) (q1 : bb ≠ vb) (q2 : sa ≠ sb) (q3 : bb ≠ sb) (q4 : vb ≠ sb) (q5 : sa ≠ vb) (Old0 : OldL Z n0 h0) :
    MetN l Z y_15 c13 3 none ws (Rm 2 0 0 33) #[(.ref sb), (.int kk), (.ref sa)] h0 (Q_rm_psa Z G1 sb vb kv kk pre sa bb kb nn vs dd h0 n0) := by
 refine MetFree.of_bodySF (plainFor_of_name pn_java_lang_AbstractStringBuilder) hisR ?_
 intro p e s m args below meth c s₁ Bd hml0 hP hK
 obtain ⟨rfl, hZ, hh⟩ := hP
 have hx := Bd.exec
 have hby := Bd.bytes
 have hml : c.maxLocals = 3 := hml0
 have hown : s.vm.findClass "java/lang/AbstractStringBuilder" = some m.cls := findClass_of_methodNamed Bd.named
 have X0 : Stand p l e (Rm 2 0 0 33) s m #[(.ref sb), (.int kk), (.ref sa)] below meth c s₁ [] 0 0 := Stand.of_body Bd
 have e0 : s₁.heap = h0 := by rw [← hh, Bd.state]; rfl
 have N0 := Fr.nil n0
 have K00 : Keep h0 h0 [vb] := Keep.refl _ _
 show Rch p e below s₁ (entryFrame m #[(.ref sb), (.int kk), (.ref sa)] 3) (FinP s (Q_rm_psa Z G1 sb vb kv kk pre sa bb kb nn vs dd h0 n0) 0 0)
 refine Rch.cast (ef_rm_psa m G1 sb vb kv kk pre sa bb kb nn vs dd) ?_
 show Rch p e below s₁ (mkF m 0 #[vR sb, vI kk, vR sa] []) _
 refine w_aloadN (pc' := 1) X0 hx hby d13_0 rfl rfl rfl ?_
 refine w_aloadN (pc' := 2) X0 hx hby d13_1 rfl rfl rfl ?_
 obtain ⟨cq101, q101a, q101b⟩ := f2.cell
 obtain ⟨_, _, ⟨T101, L101, k101, n101⟩, -, X101, ⟨Lc101, hQ101, l101, y101, z101⟩, st101⟩ := X0.privateBack hx (y := y_13) hown (mvT hZ (wi hw 223 rfl)) (mvT hZ (wi hw 224 rfl)) (own_selQ (mvT hZ (wi hw 226 rfl)) (Cond.privateMethod_at (mvP hZ (wi hw 225 rfl) (args := #[]))) (mvT hZ (wi hw 224 rfl)) (by decide)) (Cond.privateMethod_at (mvP hZ (wi hw 225 rfl) (args := #[]))) (mvT hZ (wi hw 227 rfl)) (by decide) (backOf (W := 0) (rm_inf l Z a0 hw [] G1 sb vb kv kk pre sa bb kb nn vs dd h0 n0 Z0 (O2) (P5) f2 f3 f4 f5 f6 f7 f8 f9 f10 Old0) hZ (wi hw 227 rfl) (wi hw 183 rfl) (by decide) (by decide)) (g := (mkF m 2 #[vR sb, vI kk, vR sa] [(.ref sa), (.ref sb)])) rfl (by rw [hml]; rfl) (Steps.refl _) (a := sb) (by rw [e0]; exact q101a) q101b (argsL := [(.ref sa)]) (rest := []) (lenOf pd__Ljava_lang_String__V rfl) rfl (by show 2 * 0 + _ ≤ _; exact Nat.le_of_eq rfl) (hb hby d13_2) (fun _ _ => ⟨rfl, e0, (by decide : 0 + 0 ≤ _), (by decide : 0 + 0 ≤ _)⟩)
 dsimp only [Pt.U, Pt.locs, Pt.cells, Pt.slots] at X101 l101 y101 z101 st101 hQ101
 subst l101 y101 z101
 obtain ⟨rfl, NQ101, K101⟩ := hQ101
 have N102 := Fr.app N0 NQ101
 refine Rch.st (fun _ k => st101.trans k) ?_
 show Rch p e below T101 (mkF m 5 #[vR sb, vI kk, vR sa] []) _
 refine w_aloadN (pc' := 6) X101 hx hby d13_5 rfl rfl rfl ?_
 refine w_aloadN (pc' := 7) X101 hx hby d13_6 rfl rfl rfl ?_
 obtain ⟨T103, X103, e103, st103⟩ := getF X101 hx hZ hown (host := "") (Or.inl (wi hw 187 rfl)) Via.refl K101 f3 (g := (mkF m 7 #[vR sb, vI kk, vR sa] [(.ref sb), (.ref sa)])) rfl rfl (hb hby d13_7)
 refine Rch.st (fun _ k => st103 _ k) ?_
 show Rch p e below T103 (mkF m 10 #[vR sb, vI kk, vR sa] [(.ref vb), (.ref sa)]) _
 refine w_iloadN (pc' := 11) X103 hx hby d13_10 rfl rfl ?_
 refine w_aloadN (pc' := 12) X103 hx hby d13_11 rfl rfl rfl ?_
 obtain ⟨T104, X104, e104, st104⟩ := getF X103 hx hZ hown (host := "") (Or.inl (wi hw 189 rfl)) Via.refl e103 f4 (g := (mkF m 12 #[vR sb, vI kk, vR sa] [(.ref sb), (.int kk), (.ref vb), (.ref sa)])) rfl rfl (hb hby d13_12)
 refine Rch.st (fun _ k => st104 _ k) ?_
 show Rch p e below T104 (mkF m 15 #[vR sb, vI kk, vR sa] [(.int 0), (.int kk), (.ref vb), (.ref sa)]) _
 obtain ⟨cq105, kq105, q105a, q105b, q105c⟩ := isOf hZ e104 f7
 obtain ⟨_, _, ⟨T105, L105, k105, n105⟩, -, X105, ⟨Lc105, hQ105, l105, y105, z105⟩, st105⟩ := X104.virtualBack hx (y := y_14) (z := y_14) hown (mvT hZ (wi hw 229 rfl)) (mvT hZ (wi hw 230 rfl)) (notFace_of_selects (args := #[]) (mvT hZ (wi hw 232 rfl))) (mvT hZ (wi hw 232 rfl)) (mvT hZ (wi hw 231 rfl)) (by decide) (backOf (W := 0) (rm_gb l Z a0 hw [] G1 vb kv kk pre sa bb kb nn vs dd h0 n0 Z0 (O2) (P5) f6 f7 f8 f9 f10 (hk0) (hn0) (hkl) (h16) (gb) (q1) (q5) Old0) hZ (wi hw 233 rfl) (wi hw 6 rfl) (by decide) (by decide)) q105a q105c (g := (mkF m 15 #[vR sb, vI kk, vR sa] [(.int 0), (.int kk), (.ref vb), (.ref sa)])) rfl (by rw [hml]; rfl) (Steps.refl _) (argsL := [(.ref vb), (.int kk), (.int 0)]) (rest := []) (lenOf pd___BIB_V rfl) rfl (by show 2 * 0 + _ ≤ _; exact Nat.le_of_eq rfl) (hb hby d13_15) (fun _ _ => ⟨rfl, e104, (by decide : 0 + 0 ≤ _), (by decide : 0 + 0 ≤ _)⟩)
 dsimp only [Pt.U, Pt.locs, Pt.cells, Pt.slots] at X105 l105 y105 z105 st105 hQ105
 subst l105 y105 z105
 obtain ⟨rfl, NQ105, K105, fq105_0⟩ := hQ105
 have N106 := Fr.app N102 NQ105
 have Kp116 : Keep h0 T105.heap [vb] := K00.trans K105 (allS (Or.inl (List.mem_of_getElem? (i := 0) rfl)) all0)
 refine Rch.st (fun _ k => st105.trans k) ?_
 show Rch p e below T105 (mkF m 18 #[vR sb, vI kk, vR sa] []) _
 exact Rch.ret0 X105 hx Bd.returns (hb hby d13_18) (by rw [(rfl : T105.heap = T105.heap)]; exact ⟨rfl, N106, Kp116, fq105_0⟩) (by decide) (by decide)

abbrev c14 : ByteArray := jdk_68_method_22_code
theorem d14_0 : decode c14 0 = .ok (.aload_n 1, 1) := by decide +kernel
theorem d14_1 : decode c14 1 = .ok (.ifnonnull 8, 3) := by decide +kernel
theorem d14_9 : decode c14 9 = .ok (.aload_n 1, 1) := by decide +kernel
theorem d14_10 : decode c14 10 = .ok (.invokevirtual 32, 3) := by decide +kernel
theorem d14_13 : decode c14 13 = .ok (.istore_n 2, 1) := by decide +kernel
theorem d14_14 : decode c14 14 = .ok (.aload_n 0, 1) := by decide +kernel
theorem d14_15 : decode c14 15 = .ok (.aload_n 0, 1) := by decide +kernel
theorem d14_16 : decode c14 16 = .ok (.getfield 79, 3) := by decide +kernel
theorem d14_19 : decode c14 19 = .ok (.iload_n 2, 1) := by decide +kernel
theorem d14_20 : decode c14 20 = .ok (.iadd, 1) := by decide +kernel
theorem d14_21 : decode c14 21 = .ok (.invokevirtual 100, 3) := by decide +kernel
theorem d14_24 : decode c14 24 = .ok (.aload_n 0, 1) := by decide +kernel
theorem d14_25 : decode c14 25 = .ok (.aload_n 0, 1) := by decide +kernel
theorem d14_26 : decode c14 26 = .ok (.getfield 79, 3) := by decide +kernel
theorem d14_29 : decode c14 29 = .ok (.aload_n 1, 1) := by decide +kernel
theorem d14_30 : decode c14 30 = .ok (.invokevirtual 208, 3) := by decide +kernel
theorem d14_33 : decode c14 33 = .ok (.aload_n 0, 1) := by decide +kernel
theorem d14_34 : decode c14 34 = .ok (.dup, 1) := by decide +kernel
theorem d14_35 : decode c14 35 = .ok (.getfield 79, 3) := by decide +kernel
theorem d14_38 : decode c14 38 = .ok (.iload_n 2, 1) := by decide +kernel
theorem d14_39 : decode c14 39 = .ok (.iadd, 1) := by decide +kernel
theorem d14_40 : decode c14 40 = .ok (.putfield 79, 3) := by decide +kernel
theorem d14_43 : decode c14 43 = .ok (.aload_n 0, 1) := by decide +kernel
theorem d14_44 : decode c14 44 = .ok (.areturn, 1) := by decide +kernel
theorem ef_rm_Aap (m : MethodId) (G1 : Int32) (sb : Addr) (vb : Addr) (kv : ClassId) (kk : Int32) (pre : List Value) (sa : Addr) (bb : Addr) (kb : ClassId) (nn : Int32) (vs : List Value) (dd : Value)  : entryFrame m #[(.ref sb), (.ref sa)] 3 = mkF m 0 #[vR sb, vR sa, U] [] := by  first | (simp [entryFrame, mkF, argsToLocals, Value.category, maxLocals]; done) | rfl
def Q_rm_Aap (Z : State) (G1 : Int32) (sb : Addr) (vb : Addr) (kv : ClassId) (kk : Int32) (pre : List Value) (sa : Addr) (bb : Addr) (kb : ClassId) (nn : Int32) (vs : List Value) (dd : Value) (h0 : Heap) (n0 : Nat) (v : Option Value) (h : Heap) (L : List Loc) : Prop := (v = some (.ref sb)) ∧ (Fr n0 L) ∧ (Keep h0 h [sb, vb]) ∧ (Fld Z h sb "java/lang/AbstractStringBuilder" "value" "[B" (.ref vb)) ∧ (Fld Z h sb "java/lang/AbstractStringBuilder" "coder" "B" (.int (0 : Int32))) ∧ (Fld Z h sb "java/lang/AbstractStringBuilder" "count" "I" (.int (kk + nn))) ∧ (Arv Z h vb kv .byte (16 : Int32) (pre ++ own_take vs dd nn.toNatClampNeg) (Value.int (0 : Int32)))
theorem pd___I : parseMethodDescriptor "()I" = some ⟨[], (some .int)⟩ := by decide +kernel
theorem pd__ILjava_lang_String__V : parseMethodDescriptor "(ILjava/lang/String;)V" = some ⟨[.int, (.object "java/lang/String")], none⟩ := by decide +kernel
set_option maxRecDepth 65536 in
set_option maxHeartbeats 40000000 in
theorem rm_Aap (l : Launch) (Z : State) (a0 : Array Value) (hw : ∀ d ∈ tables_1, d.before a0 Z = true) (ws : List Jvm.Cond) (G1 : Int32) (sb : Addr) (vb : Addr) (kv : ClassId) (kk : Int32) (pre : List Value) (sa : Addr) (bb : Addr) (kb : ClassId) (nn : Int32) (vs : List Value) (dd : Value) (h0 : Heap) (n0 : Nat) (Z0 : n0 ≤ h0.size) (O2 : Sta Z Z.heap "java/lang/String" "COMPACT_STRINGS" "Z" (.int G1)) (P5 : ¬ G1 = 0) (f2 : Exa Z h0 sb "java/lang/StringBuilder") (f3 : Fld Z h0 sb "java/lang/AbstractStringBuilder" "value" "[B" (.ref vb)) (f4 : Fld Z h0 sb "java/lang/AbstractStringBuilder" "coder" "B" (.int (0 : Int32))) (f5 : Fld Z h0 sb "java/lang/AbstractStringBuilder" "count" "I" (.int kk)) (f6 : Arv Z h0 vb kv .byte (16 : Int32) pre (Value.int (0 : Int32))) (f7 : Exa Z h0 sa "java/lang/String") (f8 : Fld Z h0 sa "java/lang/String" "coder" "B" (.int (0 : Int32))) (f9 : Fld Z h0 sa "java/lang/String" "value" "[B" (.ref bb)) (f10 : Arv Z h0 bb kb .byte nn vs dd) (hk0 : ¬ kk < 0) (hn0 : ¬ nn < 0) (hkl : kk.toNatClampNeg = pre.length) (h16 : pre.length + nn.toNatClampNeg ≤ 16) (hcap : ¬ (0 : Int32) < ((kk + nn) - (16 : Int32))) (gs : n0 ≤ sb) (gb : n0 ≤ vb) (q1 : bb ≠ vb) (q2 : sa ≠ sb) (q3 : bb ≠ sb) (q4 : vb ≠ sb) (q5 : sa ≠ vb) (Old0 : OldL Z n0 h0) :
    MetN l Z y_16 c14 3 (some (.object "java/lang/AbstractStringBuilder")) ws (Rm 3 0 0 47) #[(.ref sb), (.ref sa)] h0 (Q_rm_Aap Z G1 sb vb kv kk pre sa bb kb nn vs dd h0 n0) := by
 refine MetFree.of_bodySF (plainFor_of_name pn_java_lang_AbstractStringBuilder) hisR ?_
 intro p e s m args below meth c s₁ Bd hml0 hP hK
 obtain ⟨rfl, hZ, hh⟩ := hP
 have hx := Bd.exec
 have hby := Bd.bytes
 have hml : c.maxLocals = 3 := hml0
 have hown : s.vm.findClass "java/lang/AbstractStringBuilder" = some m.cls := findClass_of_methodNamed Bd.named
 have X0 : Stand p l e (Rm 3 0 0 47) s m #[(.ref sb), (.ref sa)] below meth c s₁ [] 0 0 := Stand.of_body Bd
 have e0 : s₁.heap = h0 := by rw [← hh, Bd.state]; rfl
 have N0 := Fr.nil n0
 have K00 : Keep h0 h0 [sb, vb] := Keep.refl _ _
 show Rch p e below s₁ (entryFrame m #[(.ref sb), (.ref sa)] 3) (FinP s (Q_rm_Aap Z G1 sb vb kv kk pre sa bb kb nn vs dd h0 n0) 0 0)
 refine Rch.cast (ef_rm_Aap m G1 sb vb kv kk pre sa bb kb nn vs dd) ?_
 show Rch p e below s₁ (mkF m 0 #[vR sb, vR sa, U] []) _
 refine w_aloadN (pc' := 1) X0 hx hby d14_0 rfl rfl rfl ?_
 refine w_nonnullYes (pc' := 9) X0 hx hby d14_1 rfl (fun q => nomatch q) (by decide) ?_
 refine w_aloadN (pc' := 10) X0 hx hby d14_9 rfl rfl rfl ?_
 obtain ⟨cq118, kq118, q118a, q118b, q118c⟩ := isOf hZ e0 f7
 obtain ⟨_, _, ⟨T118, L118, k118, n118⟩, -, X118, ⟨Lc118, hQ118, l118, y118, z118⟩, st118⟩ := X0.virtualBack hx (y := y_3) (z := y_3) hown (mvT hZ (wi hw 201 rfl)) (mvT hZ (wi hw 202 rfl)) (notFace_of_selects (args := #[]) (mvT hZ (wi hw 204 rfl))) (mvT hZ (wi hw 204 rfl)) (mvT hZ (wi hw 203 rfl)) (by decide) (backOf (W := 0) (rm_length l Z a0 hw [] G1 sa 0 bb kb nn vs dd h0 n0 Z0 (O2) (P5) f8 (Or.inl rfl) f9 f10 f7 Old0) hZ (wi hw 205 rfl) (wi hw 6 rfl) (by decide) (by decide)) q118a q118c (g := (mkF m 10 #[vR sb, vR sa, U] [(.ref sa)])) rfl (by rw [hml]; rfl) (Steps.refl _) (argsL := []) (rest := []) (lenOf pd___I rfl) rfl (by show 2 * 0 + _ ≤ _; exact Nat.le_of_eq rfl) (hb hby d14_10) (fun _ _ => ⟨rfl, e0, (by decide : 0 + 0 ≤ _), (by decide : 0 + 0 ≤ _)⟩)
 dsimp only [Pt.U, Pt.locs, Pt.cells, Pt.slots] at X118 l118 y118 z118 st118 hQ118
 subst l118 y118 z118
 obtain ⟨rfl, NQ118, K118⟩ := hQ118
 have N119 := Fr.app N0 NQ118
 refine Rch.st (fun _ k => st118.trans k) ?_
 show Rch p e below T118 (mkF m 13 #[vR sb, vR sa, U] [(.int (nn >>> ((0 : Int32) &&& 31)))]) _
 have r120 : (nn >>> ((0 : Int32) &&& 31)) = nn := own_sh0 nn
 rw [r120]
 show Rch p e below T118 (mkF m 13 #[vR sb, vR sa, U] [(.int nn)]) _
 refine w_istoreN (pc' := 14) (l' := #[vR sb, vR sa, vI nn]) X118 hx hby d14_13 rfl rfl ?_
 refine w_aloadN (pc' := 15) X118 hx hby d14_14 rfl rfl rfl ?_
 refine w_aloadN (pc' := 16) X118 hx hby d14_15 rfl rfl rfl ?_
 obtain ⟨T121, X121, e121, st121⟩ := getF X118 hx hZ hown (host := "") (Or.inl (wi hw 211 rfl)) Via.refl K118 f5 (g := (mkF m 16 #[vR sb, vR sa, vI nn] [(.ref sb), (.ref sb)])) rfl rfl (hb hby d14_16)
 refine Rch.st (fun _ k => st121 _ k) ?_
 show Rch p e below T121 (mkF m 19 #[vR sb, vR sa, vI nn] [(.int kk), (.ref sb)]) _
 refine w_iloadN (pc' := 20) X121 hx hby d14_19 rfl rfl ?_
 refine w_iadd (pc' := 21) X121 hx hby d14_20 rfl ?_
 obtain ⟨cq122, q122a, q122b⟩ := f2.cell
 obtain ⟨_, _, ⟨T122, L122, k122, n122⟩, -, X122, ⟨Lc122, hQ122, l122, y122, z122⟩, st122⟩ := X121.privateBack hx (y := y_12) hown (mvT hZ (wi hw 213 rfl)) (mvT hZ (wi hw 214 rfl)) (own_selQ (mvT hZ (wi hw 216 rfl)) (Cond.privateMethod_at (mvP hZ (wi hw 215 rfl) (args := #[]))) (mvT hZ (wi hw 214 rfl)) (by decide)) (Cond.privateMethod_at (mvP hZ (wi hw 215 rfl) (args := #[]))) (mvT hZ (wi hw 217 rfl)) (by decide) (backOf (W := 0) (rm_en l Z a0 hw [] sb vb kv kk pre (kk + nn) h0 n0 Z0 f2 f3 f4 f5 f6 (hcap)) hZ (wi hw 217 rfl) (wi hw 183 rfl) (by decide) (by decide)) (g := (mkF m 21 #[vR sb, vR sa, vI nn] [(.int (kk + nn)), (.ref sb)])) rfl (by rw [hml]; rfl) (Steps.refl _) (a := sb) (by rw [e121]; exact q122a) q122b (argsL := [(.int (kk + nn))]) (rest := []) (lenOf pd__I_V rfl) rfl (by show 2 * 0 + _ ≤ _; exact Nat.le_of_eq rfl) (hb hby d14_21) (fun _ _ => ⟨rfl, e121, (by decide : 0 + 0 ≤ _), (by decide : 0 + 0 ≤ _)⟩)
 dsimp only [Pt.U, Pt.locs, Pt.cells, Pt.slots] at X122 l122 y122 z122 st122 hQ122
 subst l122 y122 z122
 obtain ⟨rfl, NQ122, K122⟩ := hQ122
 have N123 := Fr.app N119 NQ122
 refine Rch.st (fun _ k => st122.trans k) ?_
 show Rch p e below T122 (mkF m 24 #[vR sb, vR sa, vI nn] []) _
 refine w_aloadN (pc' := 25) X122 hx hby d14_24 rfl rfl rfl ?_
 refine w_aloadN (pc' := 26) X122 hx hby d14_25 rfl rfl rfl ?_
 obtain ⟨T124, X124, e124, st124⟩ := getF X122 hx hZ hown (host := "") (Or.inl (wi hw 211 rfl)) Via.refl K122 f5 (g := (mkF m 26 #[vR sb, vR sa, vI nn] [(.ref sb), (.ref sb)])) rfl rfl (hb hby d14_26)
 refine Rch.st (fun _ k => st124 _ k) ?_
 show Rch p e below T124 (mkF m 29 #[vR sb, vR sa, vI nn] [(.int kk), (.ref sb)]) _
 refine w_aloadN (pc' := 30) X124 hx hby d14_29 rfl rfl rfl ?_
 obtain ⟨cq125, q125a, q125b⟩ := f2.cell
 obtain ⟨_, _, ⟨T125, L125, k125, n125⟩, -, X125, ⟨Lc125, hQ125, l125, y125, z125⟩, st125⟩ := X124.privateBack hx (y := y_15) hown (mvT hZ (wi hw 218 rfl)) (mvT hZ (wi hw 219 rfl)) (own_selQ (mvT hZ (wi hw 221 rfl)) (Cond.privateMethod_at (mvP hZ (wi hw 220 rfl) (args := #[]))) (mvT hZ (wi hw 219 rfl)) (by decide)) (Cond.privateMethod_at (mvP hZ (wi hw 220 rfl) (args := #[]))) (mvT hZ (wi hw 222 rfl)) (by decide) (backOf (W := 0) (rm_psa l Z a0 hw [] G1 sb vb kv kk pre sa bb kb nn vs dd h0 n0 Z0 (O2) (P5) f2 f3 f4 f5 f6 f7 f8 f9 f10 (hk0) (hn0) (hkl) (h16) (gb) (q1) (q2) (q3) (q4) (q5) Old0) hZ (wi hw 222 rfl) (wi hw 183 rfl) (by decide) (by decide)) (g := (mkF m 30 #[vR sb, vR sa, vI nn] [(.ref sa), (.int kk), (.ref sb)])) rfl (by rw [hml]; rfl) (Steps.refl _) (a := sb) (by rw [e124]; exact q125a) q125b (argsL := [(.int kk), (.ref sa)]) (rest := []) (lenOf pd__ILjava_lang_String__V rfl) rfl (by show 2 * 0 + _ ≤ _; exact Nat.le_of_eq rfl) (hb hby d14_30) (fun _ _ => ⟨rfl, e124, (by decide : 0 + 0 ≤ _), (by decide : 0 + 0 ≤ _)⟩)
 dsimp only [Pt.U, Pt.locs, Pt.cells, Pt.slots] at X125 l125 y125 z125 st125 hQ125
 subst l125 y125 z125
 obtain ⟨rfl, NQ125, K125, fq125_0⟩ := hQ125
 have N126 := Fr.app N123 NQ125
 have f127 := f2.keep K125
 have f128 := f3.keep K125 (ninS (Ne.symm q4) nin0)
 have f129 := f4.keep K125 (ninS (Ne.symm q4) nin0)
 have f130 := f5.keep K125 (ninS (Ne.symm q4) nin0)
 have Kp136 : Keep h0 T125.heap [sb, vb] := K00.trans K125 (allS (Or.inl (List.mem_of_getElem? (i := 1) rfl)) all0)
 refine Rch.st (fun _ k => st125.trans k) ?_
 show Rch p e below T125 (mkF m 33 #[vR sb, vR sa, vI nn] []) _
 refine w_aloadN (pc' := 34) X125 hx hby d14_33 rfl rfl rfl ?_
 refine w_dup (pc' := 35) X125 hx hby d14_34 rfl rfl ?_
 obtain ⟨T138, X138, e138, st138⟩ := getF X125 hx hZ hown (host := "") (Or.inl (wi hw 211 rfl)) Via.refl (rfl : T125.heap = T125.heap) f130 (g := (mkF m 35 #[vR sb, vR sa, vI nn] [(.ref sb), (.ref sb)])) rfl rfl (hb hby d14_35)
 refine Rch.st (fun _ k => st138 _ k) ?_
 show Rch p e below T138 (mkF m 38 #[vR sb, vR sa, vI nn] [(.int kk), (.ref sb)]) _
 refine w_iloadN (pc' := 39) X138 hx hby d14_38 rfl rfl ?_
 refine w_iadd (pc' := 40) X138 hx hby d14_39 rfl ?_
 obtain ⟨T139, h139, X139, e139, W139, st139⟩ := putF X138 hx hZ hown (host := "") (Or.inl (wi hw 211 rfl)) Via.refl e138 f130 f127 (Or.inl (wi hw 212 rfl)) (wi hw 174 rfl) (ty := .int) (by decide) rfl rfl (g := (mkF m 40 #[vR sb, vR sa, vI nn] [(.int (kk + nn)), (.ref sb)])) rfl rfl (hb hby d14_40)
 have N140 := Fr.snoc X139 N126 gs
 have f142 := f128.other W139 (Or.inr (slot_ne (t := (.array .byte)) (t' := .int) (Or.inl (wi hw 188 rfl)) (Or.inl (wi hw 212 rfl)) (by decide) (by decide) (by decide)))
 have f143 := f129.other W139 (Or.inr (slot_ne (t := .byte) (t' := .int) (Or.inl (wi hw 190 rfl)) (Or.inl (wi hw 212 rfl)) (by decide) (by decide) (by decide)))
 have f144 := f130.same W139
 have f149 := fq125_0.other W139 q4
 have Kp152 : Keep h0 h139 [sb, vb] := Kp136.wr W139 (Or.inl (List.mem_of_getElem? (i := 0) rfl))
 refine Rch.st (fun _ k => st139 _ k) ?_
 show Rch p e below T139 (mkF m 43 #[vR sb, vR sa, vI nn] []) _
 refine w_aloadN (pc' := 44) X139 hx hby d14_43 rfl rfl rfl ?_
 exact Rch.retV X139 hx Bd.returns rfl (Or.inr (Or.inr (Or.inr (Or.inr ⟨rfl, rfl, rfl⟩)))) (hb hby d14_44) (by rw [e139]; exact ⟨rfl, N140, Kp152, f142, f143, f144, f149⟩) (by decide) (by decide)

abbrev c15 : ByteArray := jdk_67_method_7_code
theorem d15_0 : decode c15 0 = .ok (.aload_n 0, 1) := by decide +kernel
theorem d15_1 : decode c15 1 = .ok (.aload_n 1, 1) := by decide +kernel
theorem d15_2 : decode c15 2 = .ok (.invokespecial 29, 3) := by decide +kernel
theorem d15_5 : decode c15 5 = .ok (.pop, 1) := by decide +kernel
theorem d15_6 : decode c15 6 = .ok (.aload_n 0, 1) := by decide +kernel
theorem d15_7 : decode c15 7 = .ok (.areturn, 1) := by decide +kernel
theorem ef_rm_Bap (m : MethodId) (G1 : Int32) (sb : Addr) (vb : Addr) (kv : ClassId) (kk : Int32) (pre : List Value) (sa : Addr) (bb : Addr) (kb : ClassId) (nn : Int32) (vs : List Value) (dd : Value)  : entryFrame m #[(.ref sb), (.ref sa)] 2 = mkF m 0 #[vR sb, vR sa] [] := by  first | (simp [entryFrame, mkF, argsToLocals, Value.category, maxLocals]; done) | rfl
def Q_rm_Bap (Z : State) (G1 : Int32) (sb : Addr) (vb : Addr) (kv : ClassId) (kk : Int32) (pre : List Value) (sa : Addr) (bb : Addr) (kb : ClassId) (nn : Int32) (vs : List Value) (dd : Value) (h0 : Heap) (n0 : Nat) (v : Option Value) (h : Heap) (L : List Loc) : Prop := (v = some (.ref sb)) ∧ (Fr n0 L) ∧ (Keep h0 h [sb, vb]) ∧ (Fld Z h sb "java/lang/AbstractStringBuilder" "value" "[B" (.ref vb)) ∧ (Fld Z h sb "java/lang/AbstractStringBuilder" "coder" "B" (.int (0 : Int32))) ∧ (Fld Z h sb "java/lang/AbstractStringBuilder" "count" "I" (.int (kk + nn))) ∧ (Arv Z h vb kv .byte (16 : Int32) (pre ++ own_take vs dd nn.toNatClampNeg) (Value.int (0 : Int32)))
theorem pd__Ljava_lang_String__Ljava_lang_AbstractStringBuilder_ : parseMethodDescriptor "(Ljava/lang/String;)Ljava/lang/AbstractStringBuilder;" = some ⟨[(.object "java/lang/String")], (some (.object "java/lang/AbstractStringBuilder"))⟩ := by decide +kernel
set_option maxRecDepth 65536 in
set_option maxHeartbeats 40000000 in
theorem rm_Bap (l : Launch) (Z : State) (a0 : Array Value) (hw : ∀ d ∈ tables_1, d.before a0 Z = true) (ws : List Jvm.Cond) (G1 : Int32) (sb : Addr) (vb : Addr) (kv : ClassId) (kk : Int32) (pre : List Value) (sa : Addr) (bb : Addr) (kb : ClassId) (nn : Int32) (vs : List Value) (dd : Value) (h0 : Heap) (n0 : Nat) (Z0 : n0 ≤ h0.size) (O2 : Sta Z Z.heap "java/lang/String" "COMPACT_STRINGS" "Z" (.int G1)) (P5 : ¬ G1 = 0) (f2 : Exa Z h0 sb "java/lang/StringBuilder") (f3 : Fld Z h0 sb "java/lang/AbstractStringBuilder" "value" "[B" (.ref vb)) (f4 : Fld Z h0 sb "java/lang/AbstractStringBuilder" "coder" "B" (.int (0 : Int32))) (f5 : Fld Z h0 sb "java/lang/AbstractStringBuilder" "count" "I" (.int kk)) (f6 : Arv Z h0 vb kv .byte (16 : Int32) pre (Value.int (0 : Int32))) (f7 : Exa Z h0 sa "java/lang/String") (f8 : Fld Z h0 sa "java/lang/String" "coder" "B" (.int (0 : Int32))) (f9 : Fld Z h0 sa "java/lang/String" "value" "[B" (.ref bb)) (f10 : Arv Z h0 bb kb .byte nn vs dd) (hk0 : ¬ kk < 0) (hn0 : ¬ nn < 0) (hkl : kk.toNatClampNeg = pre.length) (h16 : pre.length + nn.toNatClampNeg ≤ 16) (hcap : ¬ (0 : Int32) < ((kk + nn) - (16 : Int32))) (gs : n0 ≤ sb) (gb : n0 ≤ vb) (q1 : bb ≠ vb) (q2 : sa ≠ sb) (q3 : bb ≠ sb) (q4 : vb ≠ sb) (q5 : sa ≠ vb) (Old0 : OldL Z n0 h0) :
    MetN l Z y_17 c15 2 (some (.object "java/lang/StringBuilder")) ws (Rm 4 0 0 61) #[(.ref sb), (.ref sa)] h0 (Q_rm_Bap Z G1 sb vb kv kk pre sa bb kb nn vs dd h0 n0) := by
 refine MetFree.of_bodySF (plainFor_of_name pn_java_lang_StringBuilder) hisR ?_
 intro p e s m args below meth c s₁ Bd hml0 hP hK
 obtain ⟨rfl, hZ, hh⟩ := hP
 have hx := Bd.exec
 have hby := Bd.bytes
 have hml : c.maxLocals = 2 := hml0
 have hown : s.vm.findClass "java/lang/StringBuilder" = some m.cls := findClass_of_methodNamed Bd.named
 have X0 : Stand p l e (Rm 4 0 0 61) s m #[(.ref sb), (.ref sa)] below meth c s₁ [] 0 0 := Stand.of_body Bd
 have e0 : s₁.heap = h0 := by rw [← hh, Bd.state]; rfl
 have N0 := Fr.nil n0
 have K00 : Keep h0 h0 [sb, vb] := Keep.refl _ _
 show Rch p e below s₁ (entryFrame m #[(.ref sb), (.ref sa)] 2) (FinP s (Q_rm_Bap Z G1 sb vb kv kk pre sa bb kb nn vs dd h0 n0) 0 0)
 refine Rch.cast (ef_rm_Bap m G1 sb vb kv kk pre sa bb kb nn vs dd) ?_
 show Rch p e below s₁ (mkF m 0 #[vR sb, vR sa] []) _
 refine w_aloadN (pc' := 1) X0 hx hby d15_0 rfl rfl rfl ?_
 refine w_aloadN (pc' := 2) X0 hx hby d15_1 rfl rfl rfl ?_
 obtain ⟨_, _, ⟨T153, L153, k153, n153⟩, -, X153, ⟨Lc153, hQ153, l153, y153, z153⟩, st153⟩ := superBack X0 hx hZ (y := y_16) hown (wi hw 196 rfl) (own_sameM (args := a0) (wi hw 216 rfl) rfl (wi hw 197 rfl) (by decide)) (wi hw 197 rfl) (wi hw 198 rfl) (by decide) (backOf (W := 0) (rm_Aap l Z a0 hw [] G1 sb vb kv kk pre sa bb kb nn vs dd h0 n0 Z0 (O2) (P5) f2 f3 f4 f5 f6 f7 f8 f9 f10 (hk0) (hn0) (hkl) (h16) (hcap) (gs) (gb) (q1) (q2) (q3) (q4) (q5) Old0) hZ (wi hw 200 rfl) (wi hw 183 rfl) (by decide) (by decide)) e0 (Ins.self f2) (g := (mkF m 2 #[vR sb, vR sa] [(.ref sa), (.ref sb)])) rfl (by rw [hml]; rfl) (wi hw 200 rfl) (argsL := [(.ref sa)]) (rest := []) (lenOf pd__Ljava_lang_String__Ljava_lang_AbstractStringBuilder_ rfl) rfl (by show 2 * 0 + _ ≤ _; exact Nat.le_of_eq rfl) (hb hby d15_2) (fun _ _ => ⟨rfl, e0, (by decide : 0 + 0 ≤ _), (by decide : 0 + 0 ≤ _)⟩)
 dsimp only [Pt.U, Pt.locs, Pt.cells, Pt.slots] at X153 l153 y153 z153 st153 hQ153
 subst l153 y153 z153
 obtain ⟨rfl, NQ153, K153, fq153_0, fq153_1, fq153_2, fq153_3⟩ := hQ153
 have N154 := Fr.app N0 NQ153
 have Kp161 : Keep h0 T153.heap [sb, vb] := K00.trans K153 (allS (Or.inl (List.mem_of_getElem? (i := 0) rfl)) (allS (Or.inl (List.mem_of_getElem? (i := 1) rfl)) all0))
 refine Rch.st (fun _ k => st153.trans k) ?_
 show Rch p e below T153 (mkF m 5 #[vR sb, vR sa] [(.ref sb)]) _
 refine w_pop (pc' := 6) X153 hx hby d15_5 rfl rfl ?_
 refine w_aloadN (pc' := 7) X153 hx hby d15_6 rfl rfl rfl ?_
 exact Rch.retV X153 hx Bd.returns rfl (Or.inr (Or.inr (Or.inr (Or.inr ⟨rfl, rfl, rfl⟩)))) (hb hby d15_7) (by rw [(rfl : T153.heap = T153.heap)]; exact ⟨rfl, N154, Kp161, fq153_0, fq153_1, fq153_2, fq153_3⟩) (by decide) (by decide)

abbrev c16 : ByteArray := jdk_68_method_64_code
theorem d16_0 : decode c16 0 = .ok (.aload_n 0, 1) := by decide +kernel
theorem d16_1 : decode c16 1 = .ok (.getfield 15, 3) := by decide +kernel
theorem d16_4 : decode c16 4 = .ok (.areturn, 1) := by decide +kernel
theorem ef_rm_gv (m : MethodId) (sb : Addr) (vb : Addr) (kv : ClassId) (kk : Int32) (pre : List Value)  : entryFrame m #[(.ref sb)] 1 = mkF m 0 #[vR sb] [] := by  first | (simp [entryFrame, mkF, argsToLocals, Value.category, maxLocals]; done) | rfl
def Q_rm_gv (Z : State) (sb : Addr) (vb : Addr) (kv : ClassId) (kk : Int32) (pre : List Value) (h0 : Heap) (n0 : Nat) (v : Option Value) (h : Heap) (L : List Loc) : Prop := (v = some (.ref vb)) ∧ (Fr n0 L) ∧ (h = h0)
set_option maxRecDepth 65536 in
set_option maxHeartbeats 40000000 in
theorem rm_gv (l : Launch) (Z : State) (a0 : Array Value) (hw : ∀ d ∈ tables_1, d.before a0 Z = true) (ws : List Jvm.Cond) (sb : Addr) (vb : Addr) (kv : ClassId) (kk : Int32) (pre : List Value) (h0 : Heap) (n0 : Nat) (Z0 : n0 ≤ h0.size) (f0 : Exa Z h0 sb "java/lang/StringBuilder") (f1 : Fld Z h0 sb "java/lang/AbstractStringBuilder" "value" "[B" (.ref vb)) (f2 : Fld Z h0 sb "java/lang/AbstractStringBuilder" "coder" "B" (.int (0 : Int32))) (f3 : Fld Z h0 sb "java/lang/AbstractStringBuilder" "count" "I" (.int kk)) (f4 : Arv Z h0 vb kv .byte (16 : Int32) pre (Value.int (0 : Int32))) :
    MetN l Z y_18 c16 1 (some (.array .byte)) ws (Rm 0 0 0 0) #[(.ref sb)] h0 (Q_rm_gv Z sb vb kv kk pre h0 n0) := by
 refine MetFree.of_bodySF (plainFor_of_name pn_java_lang_AbstractStringBuilder) hisR ?_
 intro p e s m args below meth c s₁ Bd hml0 hP hK
 obtain ⟨rfl, hZ, hh⟩ := hP
 have hx := Bd.exec
 have hby := Bd.bytes
 have hml : c.maxLocals = 1 := hml0
 have hown : s.vm.findClass "java/lang/AbstractStringBuilder" = some m.cls := findClass_of_methodNamed Bd.named
 have X0 : Stand p l e (Rm 0 0 0 0) s m #[(.ref sb)] below meth c s₁ [] 0 0 := Stand.of_body Bd
 have e0 : s₁.heap = h0 := by rw [← hh, Bd.state]; rfl
 have N0 := Fr.nil n0
 have K00 : Keep h0 h0 [] := Keep.refl _ _
 show Rch p e below s₁ (entryFrame m #[(.ref sb)] 1) (FinP s (Q_rm_gv Z sb vb kv kk pre h0 n0) 0 0)
 refine Rch.cast (ef_rm_gv m sb vb kv kk pre) ?_
 show Rch p e below s₁ (mkF m 0 #[vR sb] []) _
 refine w_aloadN (pc' := 1) X0 hx hby d16_0 rfl rfl rfl ?_
 obtain ⟨T163, X163, e163, st163⟩ := getF X0 hx hZ hown (host := "") (Or.inl (wi hw 187 rfl)) Via.refl e0 f1 (g := (mkF m 1 #[vR sb] [(.ref sb)])) rfl rfl (hb hby d16_1)
 refine Rch.st (fun _ k => st163 _ k) ?_
 show Rch p e below T163 (mkF m 4 #[vR sb] [(.ref vb)]) _
 exact Rch.retV X163 hx Bd.returns rfl (Or.inr (Or.inr (Or.inr (Or.inr ⟨rfl, rfl, rfl⟩)))) (hb hby d16_4) (by rw [e163]; exact ⟨rfl, N0, rfl⟩) (by decide) (by decide)

abbrev c17 : ByteArray := jdk_68_method_6_code
theorem d17_0 : decode c17 0 = .ok (.aload_n 0, 1) := by decide +kernel
theorem d17_1 : decode c17 1 = .ok (.getfield 79, 3) := by decide +kernel
theorem d17_4 : decode c17 4 = .ok (.ireturn, 1) := by decide +kernel
theorem ef_rm_Al (m : MethodId) (sb : Addr) (vb : Addr) (kv : ClassId) (kk : Int32) (pre : List Value)  : entryFrame m #[(.ref sb)] 1 = mkF m 0 #[vR sb] [] := by  first | (simp [entryFrame, mkF, argsToLocals, Value.category, maxLocals]; done) | rfl
def Q_rm_Al (Z : State) (sb : Addr) (vb : Addr) (kv : ClassId) (kk : Int32) (pre : List Value) (h0 : Heap) (n0 : Nat) (v : Option Value) (h : Heap) (L : List Loc) : Prop := (v = some (.int kk)) ∧ (Fr n0 L) ∧ (h = h0)
set_option maxRecDepth 65536 in
set_option maxHeartbeats 40000000 in
theorem rm_Al (l : Launch) (Z : State) (a0 : Array Value) (hw : ∀ d ∈ tables_1, d.before a0 Z = true) (ws : List Jvm.Cond) (sb : Addr) (vb : Addr) (kv : ClassId) (kk : Int32) (pre : List Value) (h0 : Heap) (n0 : Nat) (Z0 : n0 ≤ h0.size) (f0 : Exa Z h0 sb "java/lang/StringBuilder") (f1 : Fld Z h0 sb "java/lang/AbstractStringBuilder" "value" "[B" (.ref vb)) (f2 : Fld Z h0 sb "java/lang/AbstractStringBuilder" "coder" "B" (.int (0 : Int32))) (f3 : Fld Z h0 sb "java/lang/AbstractStringBuilder" "count" "I" (.int kk)) (f4 : Arv Z h0 vb kv .byte (16 : Int32) pre (Value.int (0 : Int32))) :
    MetN l Z y_19 c17 1 (some .int) ws (Rm 0 0 0 0) #[(.ref sb)] h0 (Q_rm_Al Z sb vb kv kk pre h0 n0) := by
 refine MetFree.of_bodySF (plainFor_of_name pn_java_lang_AbstractStringBuilder) hisR ?_
 intro p e s m args below meth c s₁ Bd hml0 hP hK
 obtain ⟨rfl, hZ, hh⟩ := hP
 have hx := Bd.exec
 have hby := Bd.bytes
 have hml : c.maxLocals = 1 := hml0
 have hown : s.vm.findClass "java/lang/AbstractStringBuilder" = some m.cls := findClass_of_methodNamed Bd.named
 have X0 : Stand p l e (Rm 0 0 0 0) s m #[(.ref sb)] below meth c s₁ [] 0 0 := Stand.of_body Bd
 have e0 : s₁.heap = h0 := by rw [← hh, Bd.state]; rfl
 have N0 := Fr.nil n0
 have K00 : Keep h0 h0 [] := Keep.refl _ _
 show Rch p e below s₁ (entryFrame m #[(.ref sb)] 1) (FinP s (Q_rm_Al Z sb vb kv kk pre h0 n0) 0 0)
 refine Rch.cast (ef_rm_Al m sb vb kv kk pre) ?_
 show Rch p e below s₁ (mkF m 0 #[vR sb] []) _
 refine w_aloadN (pc' := 1) X0 hx hby d17_0 rfl rfl rfl ?_
 obtain ⟨T164, X164, e164, st164⟩ := getF X0 hx hZ hown (host := "") (Or.inl (wi hw 211 rfl)) Via.refl e0 f3 (g := (mkF m 1 #[vR sb] [(.ref sb)])) rfl rfl (hb hby d17_1)
 refine Rch.st (fun _ k => st164 _ k) ?_
 show Rch p e below T164 (mkF m 4 #[vR sb] [(.int kk)]) _
 exact Rch.retV X164 hx Bd.returns rfl (Or.inl ⟨rfl, by simp, _, rfl⟩) (hb hby d17_4) (by rw [e164]; exact ⟨rfl, N0, rfl⟩) (by decide) (by decide)

abbrev c18 : ByteArray := jdk_67_method_93_code
theorem d18_0 : decode c18 0 = .ok (.aload_n 0, 1) := by decide +kernel
theorem d18_1 : decode c18 1 = .ok (.invokespecial 343, 3) := by decide +kernel
theorem d18_4 : decode c18 4 = .ok (.ireturn, 1) := by decide +kernel
theorem ef_rm_Bl (m : MethodId) (sb : Addr) (vb : Addr) (kv : ClassId) (kk : Int32) (pre : List Value)  : entryFrame m #[(.ref sb)] 1 = mkF m 0 #[vR sb] [] := by  first | (simp [entryFrame, mkF, argsToLocals, Value.category, maxLocals]; done) | rfl
def Q_rm_Bl (Z : State) (sb : Addr) (vb : Addr) (kv : ClassId) (kk : Int32) (pre : List Value) (h0 : Heap) (n0 : Nat) (v : Option Value) (h : Heap) (L : List Loc) : Prop := (v = some (.int kk)) ∧ (Fr n0 L) ∧ (h = h0)
set_option maxRecDepth 65536 in
set_option maxHeartbeats 40000000 in
theorem rm_Bl (l : Launch) (Z : State) (a0 : Array Value) (hw : ∀ d ∈ tables_1, d.before a0 Z = true) (ws : List Jvm.Cond) (sb : Addr) (vb : Addr) (kv : ClassId) (kk : Int32) (pre : List Value) (h0 : Heap) (n0 : Nat) (Z0 : n0 ≤ h0.size) (f0 : Exa Z h0 sb "java/lang/StringBuilder") (f1 : Fld Z h0 sb "java/lang/AbstractStringBuilder" "value" "[B" (.ref vb)) (f2 : Fld Z h0 sb "java/lang/AbstractStringBuilder" "coder" "B" (.int (0 : Int32))) (f3 : Fld Z h0 sb "java/lang/AbstractStringBuilder" "count" "I" (.int kk)) (f4 : Arv Z h0 vb kv .byte (16 : Int32) pre (Value.int (0 : Int32))) :
    MetN l Z y_20 c18 1 (some .int) ws (Rm 1 0 0 12) #[(.ref sb)] h0 (Q_rm_Bl Z sb vb kv kk pre h0 n0) := by
 refine MetFree.of_bodySF (plainFor_of_name pn_java_lang_StringBuilder) hisR ?_
 intro p e s m args below meth c s₁ Bd hml0 hP hK
 obtain ⟨rfl, hZ, hh⟩ := hP
 have hx := Bd.exec
 have hby := Bd.bytes
 have hml : c.maxLocals = 1 := hml0
 have hown : s.vm.findClass "java/lang/StringBuilder" = some m.cls := findClass_of_methodNamed Bd.named
 have X0 : Stand p l e (Rm 1 0 0 12) s m #[(.ref sb)] below meth c s₁ [] 0 0 := Stand.of_body Bd
 have e0 : s₁.heap = h0 := by rw [← hh, Bd.state]; rfl
 have N0 := Fr.nil n0
 have K00 : Keep h0 h0 [] := Keep.refl _ _
 show Rch p e below s₁ (entryFrame m #[(.ref sb)] 1) (FinP s (Q_rm_Bl Z sb vb kv kk pre h0 n0) 0 0)
 refine Rch.cast (ef_rm_Bl m sb vb kv kk pre) ?_
 show Rch p e below s₁ (mkF m 0 #[vR sb] []) _
 refine w_aloadN (pc' := 1) X0 hx hby d18_0 rfl rfl rfl ?_
 obtain ⟨_, _, ⟨T165, L165, k165, n165⟩, -, X165, ⟨Lc165, hQ165, l165, y165, z165⟩, st165⟩ := superBack X0 hx hZ (y := y_19) hown (wi hw 264 rfl) (own_sameM (args := a0) (wi hw 216 rfl) rfl (wi hw 260 rfl) (by decide)) (wi hw 260 rfl) (wi hw 198 rfl) (by decide) (backOf (W := 0) (rm_Al l Z a0 hw [] sb vb kv kk pre h0 n0 Z0 f0 f1 f2 f3 f4) hZ (wi hw 265 rfl) (wi hw 183 rfl) (by decide) (by decide)) e0 (Ins.self f0) (g := (mkF m 1 #[vR sb] [(.ref sb)])) rfl (by rw [hml]; rfl) (wi hw 265 rfl) (argsL := []) (rest := []) (lenOf pd___I rfl) rfl (by show 2 * 0 + _ ≤ _; exact Nat.le_of_eq rfl) (hb hby d18_1) (fun _ _ => ⟨rfl, e0, (by decide : 0 + 0 ≤ _), (by decide : 0 + 0 ≤ _)⟩)
 dsimp only [Pt.U, Pt.locs, Pt.cells, Pt.slots] at X165 l165 y165 z165 st165 hQ165
 subst l165 y165 z165
 obtain ⟨rfl, NQ165, K165⟩ := hQ165
 have N166 := Fr.app N0 NQ165
 refine Rch.st (fun _ k => st165.trans k) ?_
 show Rch p e below T165 (mkF m 4 #[vR sb] [(.int kk)]) _
 exact Rch.retV X165 hx Bd.returns rfl (Or.inl ⟨rfl, by simp, _, rfl⟩) (hb hby d18_4) (by rw [K165]; exact ⟨rfl, N166, rfl⟩) (by decide) (by decide)

abbrev c19 : ByteArray := jdk_68_method_68_code
theorem d19_0 : decode c19 0 = .ok (.getstatic 18, 3) := by decide +kernel
theorem d19_3 : decode c19 3 = .ok (.ifCond .eq 14, 3) := by decide +kernel
theorem d19_6 : decode c19 6 = .ok (.aload_n 0, 1) := by decide +kernel
theorem d19_7 : decode c19 7 = .ok (.getfield 22, 3) := by decide +kernel
theorem d19_10 : decode c19 10 = .ok (.ifCond .ne 7, 3) := by decide +kernel
theorem d19_13 : decode c19 13 = .ok (.iconst 1, 1) := by decide +kernel
theorem d19_14 : decode c19 14 = .ok (.goto 4, 3) := by decide +kernel
theorem d19_18 : decode c19 18 = .ok (.ireturn, 1) := by decide +kernel
theorem ef_rm_Ail (m : MethodId) (G1 : Int32) (sb : Addr) (vb : Addr) (kv : ClassId) (kk : Int32) (pre : List Value)  : entryFrame m #[(.ref sb)] 1 = mkF m 0 #[vR sb] [] := by  first | (simp [entryFrame, mkF, argsToLocals, Value.category, maxLocals]; done) | rfl
def Q_rm_Ail (Z : State) (G1 : Int32) (sb : Addr) (vb : Addr) (kv : ClassId) (kk : Int32) (pre : List Value) (h0 : Heap) (n0 : Nat) (v : Option Value) (h : Heap) (L : List Loc) : Prop := (v = some (.int (1 : Int32))) ∧ (Fr n0 L) ∧ (h = h0)
set_option maxRecDepth 65536 in
set_option maxHeartbeats 40000000 in
theorem rm_Ail (l : Launch) (Z : State) (a0 : Array Value) (hw : ∀ d ∈ tables_1, d.before a0 Z = true) (ws : List Jvm.Cond) (G1 : Int32) (sb : Addr) (vb : Addr) (kv : ClassId) (kk : Int32) (pre : List Value) (h0 : Heap) (n0 : Nat) (Z0 : n0 ≤ h0.size) (O2 : Sta Z Z.heap "java/lang/String" "COMPACT_STRINGS" "Z" (.int G1)) (P5 : ¬ G1 = 0) (f2 : Exa Z h0 sb "java/lang/StringBuilder") (f3 : Fld Z h0 sb "java/lang/AbstractStringBuilder" "value" "[B" (.ref vb)) (f4 : Fld Z h0 sb "java/lang/AbstractStringBuilder" "coder" "B" (.int (0 : Int32))) (f5 : Fld Z h0 sb "java/lang/AbstractStringBuilder" "count" "I" (.int kk)) (f6 : Arv Z h0 vb kv .byte (16 : Int32) pre (Value.int (0 : Int32))) (Old0 : OldL Z n0 h0) :
    MetN l Z y_21 c19 1 (some .boolean) ws (Rm 0 0 0 0) #[(.ref sb)] h0 (Q_rm_Ail Z G1 sb vb kv kk pre h0 n0) := by
 refine MetFree.of_bodySF (plainFor_of_name pn_java_lang_AbstractStringBuilder) hisR ?_
 intro p e s m args below meth c s₁ Bd hml0 hP hK
 obtain ⟨rfl, hZ, hh⟩ := hP
 have hx := Bd.exec
 have hby := Bd.bytes
 have hml : c.maxLocals = 1 := hml0
 have hown : s.vm.findClass "java/lang/AbstractStringBuilder" = some m.cls := findClass_of_methodNamed Bd.named
 have X0 : Stand p l e (Rm 0 0 0 0) s m #[(.ref sb)] below meth c s₁ [] 0 0 := Stand.of_body Bd
 have e0 : s₁.heap = h0 := by rw [← hh, Bd.state]; rfl
 have N0 := Fr.nil n0
 have K00 : Keep h0 h0 [] := Keep.refl _ _
 show Rch p e below s₁ (entryFrame m #[(.ref sb)] 1) (FinP s (Q_rm_Ail Z G1 sb vb kv kk pre h0 n0) 0 0)
 refine Rch.cast (ef_rm_Ail m G1 sb vb kv kk pre) ?_
 show Rch p e below s₁ (mkF m 0 #[vR sb] []) _
 obtain ⟨T167, X167, e167, st167⟩ := getS X0 hx hZ hown (host := "") (wi hw 186 rfl) Via.refl e0 (O2.ext Old0.2) (g := (mkF m 0 #[vR sb] [])) rfl (hb hby d19_0)
 refine Rch.st (fun _ k => st167 _ k) ?_
 show Rch p e below T167 (mkF m 3 #[vR sb] [(.int G1)]) _
 refine w_ifNo (pc' := 6) X167 hx hby d19_3 (XT.i0_eq_f (P5)) rfl ?_
 refine w_aloadN (pc' := 7) X167 hx hby d19_6 rfl rfl rfl ?_
 obtain ⟨T168, X168, e168, st168⟩ := getF X167 hx hZ hown (host := "") (Or.inl (wi hw 189 rfl)) Via.refl e167 f4 (g := (mkF m 7 #[vR sb] [(.ref sb)])) rfl rfl (hb hby d19_7)
 refine Rch.st (fun _ k => st168 _ k) ?_
 show Rch p e below T168 (mkF m 10 #[vR sb] [(.int 0)]) _
 refine w_ifNo (pc' := 13) X168 hx hby d19_10 (XT.i0_ne_f (by decide)) rfl ?_
 refine w_iconst (pc' := 14) (v := 1) X168 hx hby d19_13 rfl rfl ?_
 refine w_goto (pc' := 18) X168 hx hby d19_14 (by decide) ?_
 exact Rch.retV X168 hx Bd.returns rfl (Or.inl ⟨rfl, by simp, _, rfl⟩) (hb hby d19_18) (by rw [e168]; exact ⟨rfl, N0, rfl⟩) (by decide) (by decide)

abbrev c20 : ByteArray := jdk_42_method_150_code
theorem d20_0 : decode c20 0 = .ok (.aload_n 0, 1) := by decide +kernel
theorem d20_1 : decode c20 1 = .ok (.invokespecial 1, 3) := by decide +kernel
theorem d20_4 : decode c20 4 = .ok (.aload_n 1, 1) := by decide +kernel
theorem d20_5 : decode c20 5 = .ok (.invokevirtual 552, 3) := by decide +kernel
theorem d20_8 : decode c20 8 = .ok (.astore_n 3, 1) := by decide +kernel
theorem d20_9 : decode c20 9 = .ok (.aload_n 1, 1) := by decide +kernel
theorem d20_10 : decode c20 10 = .ok (.invokevirtual 549, 3) := by decide +kernel
theorem d20_13 : decode c20 13 = .ok (.istore 4, 2) := by decide +kernel
theorem d20_15 : decode c20 15 = .ok (.aload_n 1, 1) := by decide +kernel
theorem d20_16 : decode c20 16 = .ok (.invokevirtual 1047, 3) := by decide +kernel
theorem d20_19 : decode c20 19 = .ok (.ifCond .eq 22, 3) := by decide +kernel
theorem d20_22 : decode c20 22 = .ok (.aload_n 0, 1) := by decide +kernel
theorem d20_23 : decode c20 23 = .ok (.iconst 0, 1) := by decide +kernel
theorem d20_24 : decode c20 24 = .ok (.putfield 15, 3) := by decide +kernel
theorem d20_27 : decode c20 27 = .ok (.aload_n 0, 1) := by decide +kernel
theorem d20_28 : decode c20 28 = .ok (.aload_n 3, 1) := by decide +kernel
theorem d20_29 : decode c20 29 = .ok (.iconst 0, 1) := by decide +kernel
theorem d20_30 : decode c20 30 = .ok (.iload 4, 2) := by decide +kernel
theorem d20_32 : decode c20 32 = .ok (.invokestatic 54, 3) := by decide +kernel
theorem d20_35 : decode c20 35 = .ok (.putfield 9, 3) := by decide +kernel
theorem d20_38 : decode c20 38 = .ok (.goto 59, 3) := by decide +kernel
theorem d20_97 : decode c20 97 = .ok (.return_, 1) := by decide +kernel
theorem ef_rm_SA (m : MethodId) (G1 : Int32) (a5 : Addr) (sb : Addr) (vb : Addr) (kv : ClassId) (kk : Int32) (pre : List Value)  : entryFrame m #[(.ref a5), (.ref sb), .null] 5 = mkF m 0 #[vR a5, vR sb, vN, U, U] [] := by  first | (simp [entryFrame, mkF, argsToLocals, Value.category, maxLocals]; done) | rfl
def Q_rm_SA (Z : State) (G1 : Int32) (a5 : Addr) (sb : Addr) (vb : Addr) (kv : ClassId) (kk : Int32) (pre : List Value) (h0 : Heap) (n0 : Nat) (v : Option Value) (h : Heap) (L : List Loc) : Prop := ∃ (t : Addr) (kt : ClassId), (v = none) ∧ (Fr n0 L) ∧ (Keep h0 h [a5]) ∧ (h0.size ≤ t) ∧ (Fld Z h a5 "java/lang/String" "coder" "B" (.int (0 : Int32))) ∧ (Fld Z h a5 "java/lang/String" "value" "[B" (.ref t)) ∧ (Arv Z h t kt .byte kk (own_take pre (Value.int (0 : Int32)) kk.toNatClampNeg) (.int (0 : Int32)))
theorem pd____B : parseMethodDescriptor "()[B" = some ⟨[], (some (.array .byte))⟩ := by decide +kernel
theorem pd___Z : parseMethodDescriptor "()Z" = some ⟨[], (some .boolean)⟩ := by decide +kernel
set_option maxRecDepth 65536 in
set_option maxHeartbeats 40000000 in
theorem rm_SA (l : Launch) (Z : State) (a0 : Array Value) (hw : ∀ d ∈ tables_1, d.before a0 Z = true) (ws : List Jvm.Cond) (G1 : Int32) (a5 : Addr) (sb : Addr) (vb : Addr) (kv : ClassId) (kk : Int32) (pre : List Value) (h0 : Heap) (n0 : Nat) (Z0 : n0 ≤ h0.size) (O2 : Sta Z Z.heap "java/lang/String" "COMPACT_STRINGS" "Z" (.int G1)) (P5 : ¬ G1 = 0) (f2 : Exa Z h0 sb "java/lang/StringBuilder") (f3 : Fld Z h0 sb "java/lang/AbstractStringBuilder" "value" "[B" (.ref vb)) (f4 : Fld Z h0 sb "java/lang/AbstractStringBuilder" "coder" "B" (.int (0 : Int32))) (f5 : Fld Z h0 sb "java/lang/AbstractStringBuilder" "count" "I" (.int kk)) (f6 : Arv Z h0 vb kv .byte (16 : Int32) pre (Value.int (0 : Int32))) (f7 : Exa Z h0 a5 "java/lang/String") (f8 : Fld Z h0 a5 "java/lang/String" "coder" "B" (.int (0 : Int32))) (f9 : Fld Z h0 a5 "java/lang/String" "value" "[B" .null) (hz0 : ¬ kk < 0) (hc : kk.toNatClampNeg ≤ 16) (hm : own_min32 (16 : Int32) kk = kk) (hl : kk.toNatClampNeg ≤ (16 : Int32).toNatClampNeg) (hne : ¬ kk = (16 : Int32)) (ga : n0 ≤ a5) (q6 : sb ≠ a5) (q7 : vb ≠ a5) (Old0 : OldL Z n0 h0) :
    MetN l Z y_22 c20 5 none ws (Rm 3 1 16 49) #[(.ref a5), (.ref sb), .null] h0 (Q_rm_SA Z G1 a5 sb vb kv kk pre h0 n0) := by
 refine MetFree.of_bodySF (plainFor_of_name pn_java_lang_String) hisR ?_
 intro p e s m args below meth c s₁ Bd hml0 hP hK
 obtain ⟨rfl, hZ, hh⟩ := hP
 have hx := Bd.exec
 have hby := Bd.bytes
 have hml : c.maxLocals = 5 := hml0
 have hown : s.vm.findClass "java/lang/String" = some m.cls := findClass_of_methodNamed Bd.named
 have hnm := (name_of_methodNamed Bd.named Bd.method).1
 have X0 : Stand p l e (Rm 3 1 16 49) s m #[(.ref a5), (.ref sb), .null] below meth c s₁ [] 0 0 := Stand.of_body Bd
 have e0 : s₁.heap = h0 := by rw [← hh, Bd.state]; rfl
 have N0 := Fr.nil n0
 have K00 : Keep h0 h0 [a5] := Keep.refl _ _
 show Rch p e below s₁ (entryFrame m #[(.ref a5), (.ref sb), .null] 5) (FinP s (Q_rm_SA Z G1 a5 sb vb kv kk pre h0 n0) 1 16)
 refine Rch.cast (ef_rm_SA m G1 a5 sb vb kv kk pre) ?_
 show Rch p e below s₁ (mkF m 0 #[vR a5, vR sb, vN, U, U] []) _
 refine w_aloadN (pc' := 1) X0 hx hby d20_0 rfl rfl rfl ?_
 obtain ⟨T169, X169, e169, st169⟩ := initO X0 hx hZ hown (wi hw 23 rfl) (wi hw 24 rfl) (wi hw 25 rfl) e0 (g := (mkF m 1 #[vR a5, vR sb, vN, U, U] [(.ref a5)])) rfl (by rw [hml]; rfl) rfl (hb hby d20_1) (by decide) (W := 0) (by show 2 * 0 + _ ≤ _; exact Nat.le_of_eq rfl) (by decide)
 refine Rch.st (fun _ k => st169 _ k) ?_
 show Rch p e below T169 (mkF m 4 #[vR a5, vR sb, vN, U, U] []) _
 refine w_aloadN (pc' := 5) X169 hx hby d20_4 rfl rfl rfl ?_
 obtain ⟨cq170, kq170, q170a, q170b, q170c⟩ := isOf hZ e169 f2
 obtain ⟨_, _, ⟨T170, L170, k170, n170⟩, -, X170, ⟨Lc170, hQ170, l170, y170, z170⟩, st170⟩ := X169.virtualBack hx (y := y_18) (z := y_18) hown (mvT hZ (wi hw 253 rfl)) (mvT hZ (wi hw 254 rfl)) (notFace_of_selects (args := #[]) (mvT hZ (wi hw 256 rfl))) (mvT hZ (wi hw 256 rfl)) (mvT hZ (wi hw 255 rfl)) (by decide) (backOf (W := 0) (rm_gv l Z a0 hw [] sb vb kv kk pre h0 n0 Z0 f2 f3 f4 f5 f6) hZ (wi hw 257 rfl) (wi hw 183 rfl) (by decide) (by decide)) q170a q170c (g := (mkF m 5 #[vR a5, vR sb, vN, U, U] [(.ref sb)])) rfl (by rw [hml]; rfl) (Steps.refl _) (argsL := []) (rest := []) (lenOf pd____B rfl) rfl (by show 2 * 0 + _ ≤ _; exact Nat.le_of_eq rfl) (hb hby d20_5) (fun _ _ => ⟨rfl, e169, (by decide : 0 + 0 ≤ _), (by decide : 0 + 0 ≤ _)⟩)
 dsimp only [Pt.U, Pt.locs, Pt.cells, Pt.slots] at X170 l170 y170 z170 st170 hQ170
 subst l170 y170 z170
 obtain ⟨rfl, NQ170, K170⟩ := hQ170
 have N171 := Fr.app N0 NQ170
 refine Rch.st (fun _ k => st170.trans k) ?_
 show Rch p e below T170 (mkF m 8 #[vR a5, vR sb, vN, U, U] [(.ref vb)]) _
 refine w_astoreN (pc' := 9) (l' := #[vR a5, vR sb, vN, vR vb, U]) X170 hx hby d20_8 rfl rfl rfl ?_
 refine w_aloadN (pc' := 10) X170 hx hby d20_9 rfl rfl rfl ?_
 obtain ⟨cq172, kq172, q172a, q172b, q172c⟩ := isOf hZ K170 f2
 obtain ⟨_, _, ⟨T172, L172, k172, n172⟩, -, X172, ⟨Lc172, hQ172, l172, y172, z172⟩, st172⟩ := X170.virtualBack hx (y := y_19) (z := y_20) hown (mvT hZ (wi hw 258 rfl)) (mvT hZ (wi hw 259 rfl)) (own_nf (args := #[]) (mvT hZ (wi hw 216 rfl)) rfl) (mvT hZ (wi hw 261 rfl)) (mvT hZ (wi hw 262 rfl)) (by decide) (backOf (W := 0) (rm_Bl l Z a0 hw [] sb vb kv kk pre h0 n0 Z0 f2 f3 f4 f5 f6) hZ (wi hw 263 rfl) (wi hw 175 rfl) (by decide) (by decide)) q172a q172c (g := (mkF m 10 #[vR a5, vR sb, vN, vR vb, U] [(.ref sb)])) rfl (by rw [hml]; rfl) (Steps.refl _) (argsL := []) (rest := []) (lenOf pd___I rfl) rfl (by show 2 * 0 + _ ≤ _; exact Nat.le_of_eq rfl) (hb hby d20_10) (fun _ _ => ⟨rfl, K170, (by decide : 0 + 0 ≤ _), (by decide : 0 + 0 ≤ _)⟩)
 dsimp only [Pt.U, Pt.locs, Pt.cells, Pt.slots] at X172 l172 y172 z172 st172 hQ172
 subst l172 y172 z172
 obtain ⟨rfl, NQ172, K172⟩ := hQ172
 have N173 := Fr.app N171 NQ172
 refine Rch.st (fun _ k => st172.trans k) ?_
 show Rch p e below T172 (mkF m 13 #[vR a5, vR sb, vN, vR vb, U] [(.int kk)]) _
 refine w_istore (pc' := 15) (l' := #[vR a5, vR sb, vN, vR vb, vI kk]) X172 hx hby d20_13 rfl rfl ?_
 refine w_aloadN (pc' := 16) X172 hx hby d20_15 rfl rfl rfl ?_
 obtain ⟨cq174, kq174, q174a, q174b, q174c⟩ := isOf hZ K172 f2
 obtain ⟨_, _, ⟨T174, L174, k174, n174⟩, -, X174, ⟨Lc174, hQ174, l174, y174, z174⟩, st174⟩ := X172.virtualBack hx (y := y_21) (z := y_21) hown (mvT hZ (wi hw 266 rfl)) (mvT hZ (wi hw 267 rfl)) (notFace_of_selects (args := #[]) (mvT hZ (wi hw 269 rfl))) (mvT hZ (wi hw 269 rfl)) (mvT hZ (wi hw 268 rfl)) (by decide) (backOf (W := 0) (rm_Ail l Z a0 hw [] G1 sb vb kv kk pre h0 n0 Z0 (O2) (P5) f2 f3 f4 f5 f6 Old0) hZ (wi hw 270 rfl) (wi hw 183 rfl) (by decide) (by decide)) q174a q174c (g := (mkF m 16 #[vR a5, vR sb, vN, vR vb, vI kk] [(.ref sb)])) rfl (by rw [hml]; rfl) (Steps.refl _) (argsL := []) (rest := []) (lenOf pd___Z rfl) rfl (by show 2 * 0 + _ ≤ _; exact Nat.le_of_eq rfl) (hb hby d20_16) (fun _ _ => ⟨rfl, K172, (by decide : 0 + 0 ≤ _), (by decide : 0 + 0 ≤ _)⟩)
 dsimp only [Pt.U, Pt.locs, Pt.cells, Pt.slots] at X174 l174 y174 z174 st174 hQ174
 subst l174 y174 z174
 obtain ⟨rfl, NQ174, K174⟩ := hQ174
 have N175 := Fr.app N173 NQ174
 refine Rch.st (fun _ k => st174.trans k) ?_
 show Rch p e below T174 (mkF m 19 #[vR a5, vR sb, vN, vR vb, vI kk] [(.int 1)]) _
 refine w_ifNo (pc' := 22) X174 hx hby d20_19 (XT.i0_eq_f (by decide)) rfl ?_
 refine w_aloadN (pc' := 23) X174 hx hby d20_22 rfl rfl rfl ?_
 refine w_iconst (pc' := 24) (v := 0) X174 hx hby d20_23 rfl rfl ?_
 obtain ⟨T176, h176, X176, e176, W176, st176⟩ := putF X174 hx hZ hown (host := "") (Or.inl (wi hw 28 rfl)) Via.refl K174 f8 f7 (Or.inr ⟨(wi hw 29 rfl), rfl, hnm⟩) (wi hw 14 rfl) (ty := .byte) (by decide) rfl rfl (g := (mkF m 24 #[vR a5, vR sb, vN, vR vb, vI kk] [(.int 0), (.ref a5)])) rfl rfl (hb hby d20_24)
 have N177 := Fr.snoc X176 N175 ga
 have f182 := f6.other W176 q7
 have f183 := f7.wr W176
 have f184 := f8.same W176
 have f185 := f9.other W176 (Or.inr (slot_ne (t := (.array .byte)) (t' := .byte) (Or.inr (wi hw 27 rfl)) (Or.inr (wi hw 29 rfl)) (by decide) (by decide) (by decide)))
 have Z187 := Nat.le_trans Z0 (Keep.of_wr W176).1
 have Kp188 : Keep h0 h176 [a5] := K00.wr W176 (Or.inl (List.mem_of_getElem? (i := 0) rfl))
 refine Rch.st (fun _ k => st176 _ k) ?_
 show Rch p e below T176 (mkF m 27 #[vR a5, vR sb, vN, vR vb, vI kk] []) _
 refine w_aloadN (pc' := 28) X176 hx hby d20_27 rfl rfl rfl ?_
 refine w_aloadN (pc' := 29) X176 hx hby d20_28 rfl rfl rfl ?_
 refine w_iconst (pc' := 30) (v := 0) X176 hx hby d20_29 rfl rfl ?_
 refine w_iload (pc' := 32) X176 hx hby d20_30 rfl rfl ?_
 obtain ⟨_, _, ⟨T189, L189, k189, n189⟩, -, X189, ⟨Lc189, hQ189, l189, y189, z189⟩, st189⟩ := Jvm.LawKit.callS X176 hx (y := y_9) hown (mvT hZ (wi hw 271 rfl)) (mvT hZ (wi hw 272 rfl)) (mvT hZ (wi hw 273 rfl)) (mvT hZ (wi hw 274 rfl)) (by decide) (backOf (W := 1) (rm_cr l Z a0 hw [] vb kv 16 pre (Value.int (0 : Int32)) kk h176 n0 Z187 f182 (hz0) (hc) (hm) (hl) (hne)) hZ (wi hw 274 rfl) (wi hw 273 rfl) (by decide) (by decide)) (g := (mkF m 32 #[vR a5, vR sb, vN, vR vb, vI kk] [(.int kk), (.int 0), (.ref vb), (.ref a5)])) rfl (by rw [hml]; rfl) (argsL := [(.ref vb), (.int 0), (.int kk)]) (rest := [(.ref a5)]) (lenOf pd___BII__B rfl) rfl (by show 2 * 0 + _ ≤ _; exact Nat.le_of_eq rfl) (hb hby d20_32) (fun _ _ => ⟨rfl, e176, (by decide : 0 + 1 ≤ _), (by decide : 0 + 16 ≤ _)⟩)
 dsimp only [Pt.U, Pt.locs, Pt.cells, Pt.slots] at X189 l189 y189 z189 st189 hQ189
 subst l189 y189 z189
 obtain ⟨t_189, kt_189, rfl, NQ189, K189, pq189_0, fq189_0⟩ := hQ189
 have N190 := Fr.app N177 NQ189
 have ne191 := nlt f183.lt pq189_0
 have f200 := f183.keep K189
 have f201 := f184.keep K189 nin0
 have f202 := f185.keep K189 nin0
 have Kp204 : Keep h0 T189.heap [a5] := Kp188.trans K189 all0
 refine Rch.st (fun _ k => st189 _ k) ?_
 show Rch p e below T189 (mkF m 35 #[vR a5, vR sb, vN, vR vb, vI kk] [(.ref t_189), (.ref a5)]) _
 obtain ⟨T206, h206, X206, e206, W206, st206⟩ := putF X189 hx hZ hown (host := "") (Or.inl (wi hw 26 rfl)) Via.refl (rfl : T189.heap = T189.heap) f202 f200 (Or.inr ⟨(wi hw 27 rfl), rfl, hnm⟩) (wi hw 14 rfl) (ty := (.array .byte)) (by decide) rfl rfl (g := (mkF m 35 #[vR a5, vR sb, vN, vR vb, vI kk] [(.ref t_189), (.ref a5)])) rfl rfl (hb hby d20_35)
 have N207 := Fr.snoc X206 N190 ga
 have f214 := f201.other W206 (Or.inr (slot_ne (t := .byte) (t' := (.array .byte)) (Or.inr (wi hw 29 rfl)) (Or.inr (wi hw 27 rfl)) (by decide) (by decide) (by decide)))
 have f215 := f202.same W206
 have f216 := fq189_0.other W206 (Ne.symm ne191)
 have Kp219 : Keep h0 h206 [a5] := Kp204.wr W206 (Or.inl (List.mem_of_getElem? (i := 0) rfl))
 refine Rch.st (fun _ k => st206 _ k) ?_
 show Rch p e below T206 (mkF m 38 #[vR a5, vR sb, vN, vR vb, vI kk] []) _
 refine w_goto (pc' := 97) X206 hx hby d20_38 (by decide) ?_
 exact Rch.ret0 X206 hx Bd.returns (hb hby d20_97) (by rw [e206]; exact ⟨t_189, kt_189, rfl, N207, Kp219, (Nat.le_trans Kp188.1 pq189_0), f214, f215, f216⟩) (by decide) (by decide)

abbrev c21 : ByteArray := jdk_42_method_53_code
theorem d21_0 : decode c21 0 = .ok (.aload_n 0, 1) := by decide +kernel
theorem d21_1 : decode c21 1 = .ok (.aload_n 1, 1) := by decide +kernel
theorem d21_2 : decode c21 2 = .ok (.aconst_null, 1) := by decide +kernel
theorem d21_3 : decode c21 3 = .ok (.invokespecial 489, 3) := by decide +kernel
theorem d21_6 : decode c21 6 = .ok (.return_, 1) := by decide +kernel
theorem ef_rm_SB (m : MethodId) (G1 : Int32) (a5 : Addr) (sb : Addr) (vb : Addr) (kv : ClassId) (kk : Int32) (pre : List Value)  : entryFrame m #[(.ref a5), (.ref sb)] 2 = mkF m 0 #[vR a5, vR sb] [] := by  first | (simp [entryFrame, mkF, argsToLocals, Value.category, maxLocals]; done) | rfl
def Q_rm_SB (Z : State) (G1 : Int32) (a5 : Addr) (sb : Addr) (vb : Addr) (kv : ClassId) (kk : Int32) (pre : List Value) (h0 : Heap) (n0 : Nat) (v : Option Value) (h : Heap) (L : List Loc) : Prop := ∃ (t : Addr) (kt : ClassId), (v = none) ∧ (Fr n0 L) ∧ (Keep h0 h [a5]) ∧ (h0.size ≤ t) ∧ (Fld Z h a5 "java/lang/String" "coder" "B" (.int (0 : Int32))) ∧ (Fld Z h a5 "java/lang/String" "value" "[B" (.ref t)) ∧ (Arv Z h t kt .byte kk (own_take pre (Value.int (0 : Int32)) kk.toNatClampNeg) (.int (0 : Int32)))
theorem pd__Ljava_lang_AbstractStringBuilder_Ljava_lang_Void__V : parseMethodDescriptor "(Ljava/lang/AbstractStringBuilder;Ljava/lang/Void;)V" = some ⟨[(.object "java/lang/AbstractStringBuilder"), (.object "java/lang/Void")], none⟩ := by decide +kernel
set_option maxRecDepth 65536 in
set_option maxHeartbeats 40000000 in
theorem rm_SB (l : Launch) (Z : State) (a0 : Array Value) (hw : ∀ d ∈ tables_1, d.before a0 Z = true) (ws : List Jvm.Cond) (G1 : Int32) (a5 : Addr) (sb : Addr) (vb : Addr) (kv : ClassId) (kk : Int32) (pre : List Value) (h0 : Heap) (n0 : Nat) (Z0 : n0 ≤ h0.size) (O2 : Sta Z Z.heap "java/lang/String" "COMPACT_STRINGS" "Z" (.int G1)) (P5 : ¬ G1 = 0) (f2 : Exa Z h0 sb "java/lang/StringBuilder") (f3 : Fld Z h0 sb "java/lang/AbstractStringBuilder" "value" "[B" (.ref vb)) (f4 : Fld Z h0 sb "java/lang/AbstractStringBuilder" "coder" "B" (.int (0 : Int32))) (f5 : Fld Z h0 sb "java/lang/AbstractStringBuilder" "count" "I" (.int kk)) (f6 : Arv Z h0 vb kv .byte (16 : Int32) pre (Value.int (0 : Int32))) (f7 : Exa Z h0 a5 "java/lang/String") (f8 : Fld Z h0 a5 "java/lang/String" "coder" "B" (.int (0 : Int32))) (f9 : Fld Z h0 a5 "java/lang/String" "value" "[B" .null) (hz0 : ¬ kk < 0) (hc : kk.toNatClampNeg ≤ 16) (hm : own_min32 (16 : Int32) kk = kk) (hl : kk.toNatClampNeg ≤ (16 : Int32).toNatClampNeg) (hne : ¬ kk = (16 : Int32)) (ga : n0 ≤ a5) (q6 : sb ≠ a5) (q7 : vb ≠ a5) (Old0 : OldL Z n0 h0) :
    MetN l Z y_23 c21 2 none ws (Rm 4 1 16 65) #[(.ref a5), (.ref sb)] h0 (Q_rm_SB Z G1 a5 sb vb kv kk pre h0 n0) := by
 refine MetFree.of_bodySF (plainFor_of_name pn_java_lang_String) hisR ?_
 intro p e s m args below meth c s₁ Bd hml0 hP hK
 obtain ⟨rfl, hZ, hh⟩ := hP
 have hx := Bd.exec
 have hby := Bd.bytes
 have hml : c.maxLocals = 2 := hml0
 have hown : s.vm.findClass "java/lang/String" = some m.cls := findClass_of_methodNamed Bd.named
 have X0 : Stand p l e (Rm 4 1 16 65) s m #[(.ref a5), (.ref sb)] below meth c s₁ [] 0 0 := Stand.of_body Bd
 have e0 : s₁.heap = h0 := by rw [← hh, Bd.state]; rfl
 have N0 := Fr.nil n0
 have K00 : Keep h0 h0 [a5] := Keep.refl _ _
 show Rch p e below s₁ (entryFrame m #[(.ref a5), (.ref sb)] 2) (FinP s (Q_rm_SB Z G1 a5 sb vb kv kk pre h0 n0) 1 16)
 refine Rch.cast (ef_rm_SB m G1 a5 sb vb kv kk pre) ?_
 show Rch p e below s₁ (mkF m 0 #[vR a5, vR sb] []) _
 refine w_aloadN (pc' := 1) X0 hx hby d21_0 rfl rfl rfl ?_
 refine w_aloadN (pc' := 2) X0 hx hby d21_1 rfl rfl rfl ?_
 refine w_aconstNull (pc' := 3) X0 hx hby d21_2 rfl ?_
 obtain ⟨_, _, ⟨T220, L220, k220, n220⟩, -, X220, ⟨Lc220, hQ220, l220, y220, z220⟩, st220⟩ := X0.specialBack hx (y := y_22) rfl hown (mvT hZ (wi hw 250 rfl)) (mvT hZ (wi hw 251 rfl)) (mvT hZ (wi hw 252 rfl)) (by decide) (backOf (W := 0) (rm_SA l Z a0 hw [] G1 a5 sb vb kv kk pre h0 n0 Z0 (O2) (P5) f2 f3 f4 f5 f6 f7 f8 f9 (hz0) (hc) (hm) (hl) (hne) (ga) (q6) (q7) Old0) hZ (wi hw 252 rfl) (wi hw 6 rfl) (by decide) (by decide)) (g := (mkF m 3 #[vR a5, vR sb] [.null, (.ref sb), (.ref a5)])) rfl (by rw [hml]; rfl) (Steps.refl _) (a := a5) (argsL := [(.ref sb), .null]) (rest := []) (lenOf pd__Ljava_lang_AbstractStringBuilder_Ljava_lang_Void__V rfl) rfl (by show 2 * 0 + _ ≤ _; exact Nat.le_of_eq rfl) (hb hby d21_3) (fun _ _ => ⟨rfl, e0, (by decide : 0 + 1 ≤ _), (by decide : 0 + 16 ≤ _)⟩)
 dsimp only [Pt.U, Pt.locs, Pt.cells, Pt.slots] at X220 l220 y220 z220 st220 hQ220
 subst l220 y220 z220
 obtain ⟨t_220, kt_220, rfl, NQ220, K220, pq220_0, fq220_0, fq220_1, fq220_2⟩ := hQ220
 have N221 := Fr.app N0 NQ220
 have Kp233 : Keep h0 T220.heap [a5] := K00.trans K220 (allS (Or.inl (List.mem_of_getElem? (i := 0) rfl)) all0)
 refine Rch.st (fun _ k => st220.trans k) ?_
 show Rch p e below T220 (mkF m 6 #[vR a5, vR sb] []) _
 exact Rch.ret0 X220 hx Bd.returns (hb hby d21_6) (by rw [(rfl : T220.heap = T220.heap)]; exact ⟨t_220, kt_220, rfl, N221, Kp233, (Nat.le_trans K00.1 pq220_0), fq220_0, fq220_1, fq220_2⟩) (by decide) (by decide)

abbrev c22 : ByteArray := jdk_67_method_42_code
theorem d22_0 : decode c22 0 = .ok (.new 18, 3) := by decide +kernel
theorem d22_3 : decode c22 3 = .ok (.dup, 1) := by decide +kernel
theorem d22_4 : decode c22 4 = .ok (.aload_n 0, 1) := by decide +kernel
theorem d22_5 : decode c22 5 = .ok (.invokespecial 137, 3) := by decide +kernel
theorem d22_8 : decode c22 8 = .ok (.areturn, 1) := by decide +kernel
theorem ef_rm_ts (m : MethodId) (G1 : Int32) (sb : Addr) (vb : Addr) (kv : ClassId) (kk : Int32) (pre : List Value)  : entryFrame m #[(.ref sb)] 1 = mkF m 0 #[vR sb] [] := by  first | (simp [entryFrame, mkF, argsToLocals, Value.category, maxLocals]; done) | rfl
def Q_rm_ts (Z : State) (G1 : Int32) (sb : Addr) (vb : Addr) (kv : ClassId) (kk : Int32) (pre : List Value) (h0 : Heap) (n0 : Nat) (v : Option Value) (h : Heap) (L : List Loc) : Prop := ∃ (ra : Addr) (t : Addr) (kt : ClassId), (v = some (.ref ra)) ∧ (Fr n0 L) ∧ (Keep h0 h []) ∧ (h0.size ≤ ra) ∧ (h0.size ≤ t) ∧ (Exa Z h ra "java/lang/String") ∧ (Fld Z h ra "java/lang/String" "coder" "B" (.int (0 : Int32))) ∧ (Fld Z h ra "java/lang/String" "value" "[B" (.ref t)) ∧ (Arv Z h t kt .byte kk (own_take pre (Value.int (0 : Int32)) kk.toNatClampNeg) (.int (0 : Int32)))
theorem pd__Ljava_lang_StringBuilder__V : parseMethodDescriptor "(Ljava/lang/StringBuilder;)V" = some ⟨[(.object "java/lang/StringBuilder")], none⟩ := by decide +kernel
set_option maxRecDepth 65536 in
set_option maxHeartbeats 40000000 in
theorem rm_ts (l : Launch) (Z : State) (a0 : Array Value) (hw : ∀ d ∈ tables_1, d.before a0 Z = true) (ws : List Jvm.Cond) (G1 : Int32) (sb : Addr) (vb : Addr) (kv : ClassId) (kk : Int32) (pre : List Value) (h0 : Heap) (n0 : Nat) (Z0 : n0 ≤ h0.size) (O2 : Sta Z Z.heap "java/lang/String" "COMPACT_STRINGS" "Z" (.int G1)) (P5 : ¬ G1 = 0) (f2 : Exa Z h0 sb "java/lang/StringBuilder") (f3 : Fld Z h0 sb "java/lang/AbstractStringBuilder" "value" "[B" (.ref vb)) (f4 : Fld Z h0 sb "java/lang/AbstractStringBuilder" "coder" "B" (.int (0 : Int32))) (f5 : Fld Z h0 sb "java/lang/AbstractStringBuilder" "count" "I" (.int kk)) (f6 : Arv Z h0 vb kv .byte (16 : Int32) pre (Value.int (0 : Int32))) (hz0 : ¬ kk < 0) (hc : kk.toNatClampNeg ≤ 16) (hm : own_min32 (16 : Int32) kk = kk) (hl : kk.toNatClampNeg ≤ (16 : Int32).toNatClampNeg) (hne : ¬ kk = (16 : Int32)) (Old0 : OldL Z n0 h0) :
    MetN l Z y_24 c22 1 (some (.object "java/lang/String")) ws (Rm 5 2 20 79) #[(.ref sb)] h0 (Q_rm_ts Z G1 sb vb kv kk pre h0 n0) := by
 refine MetFree.of_bodySF (plainFor_of_name pn_java_lang_StringBuilder) hisR ?_
 intro p e s m args below meth c s₁ Bd hml0 hP hK
 obtain ⟨rfl, hZ, hh⟩ := hP
 have hx := Bd.exec
 have hby := Bd.bytes
 have hml : c.maxLocals = 1 := hml0
 have hown : s.vm.findClass "java/lang/StringBuilder" = some m.cls := findClass_of_methodNamed Bd.named
 have X0 : Stand p l e (Rm 5 2 20 79) s m #[(.ref sb)] below meth c s₁ [] 0 0 := Stand.of_body Bd
 have e0 : s₁.heap = h0 := by rw [← hh, Bd.state]; rfl
 have N0 := Fr.nil n0
 have K00 : Keep h0 h0 [] := Keep.refl _ _
 show Rch p e below s₁ (entryFrame m #[(.ref sb)] 1) (FinP s (Q_rm_ts Z G1 sb vb kv kk pre h0 n0) 2 20)
 refine Rch.cast (ef_rm_ts m G1 sb vb kv kk pre) ?_
 show Rch p e below s₁ (mkF m 0 #[vR sb] []) _
 obtain ⟨T235, h235, X235, e235, E235, A235, D235, -, st235⟩ := newO X0 hx hZ hown (wi hw 246 rfl) (wi hw 14 rfl) (wi hw 6 rfl) e0 (g := (mkF m 0 #[vR sb] [])) rfl (hb hby d22_0) (by decide) (by decide)
 obtain ⟨a235, g235⟩ : ∃ z, z = h0.size := ⟨_, rfl⟩
 rw [← g235] at A235 D235 st235
 have ne236 : sb ≠ a235 := by rw [g235]; exact Nat.ne_of_lt f2.lt
 have ne237 : vb ≠ a235 := by rw [g235]; exact Nat.ne_of_lt f6.lt
 have ge238 : n0 ≤ a235 := Nat.le_trans Z0 (Nat.le_of_eq g235.symm)
 have f240 := f2.ext E235
 have f241 := f3.ext E235
 have f242 := f4.ext E235
 have f243 := f5.ext E235
 have f244 := f6.ext E235
 have Old245 := Old0.ext E235
 have Z246 := Nat.le_trans Z0 E235.1
 have Kp247 : Keep h0 h235 [] := K00.ext E235
 have f248 : Fld Z h235 a235 "java/lang/String" "coder" "B" (.int (0 : Int32)) := D235 (Or.inr (wi hw 29 rfl)) (ty := .byte) (by decide)
 have f249 : Fld Z h235 a235 "java/lang/String" "value" "[B" .null := D235 (Or.inr (wi hw 27 rfl)) (ty := (.array .byte)) (by decide)
 refine Rch.st (fun _ k => st235 _ k) ?_
 show Rch p e below T235 (mkF m 3 #[vR sb] [(.ref a235)]) _
 refine w_dup (pc' := 4) X235 hx hby d22_3 rfl rfl ?_
 refine w_aloadN (pc' := 5) X235 hx hby d22_4 rfl rfl rfl ?_
 obtain ⟨_, _, ⟨T250, L250, k250, n250⟩, -, X250, ⟨Lc250, hQ250, l250, y250, z250⟩, st250⟩ := X235.specialBack hx (y := y_23) rfl hown (mvT hZ (wi hw 247 rfl)) (mvT hZ (wi hw 248 rfl)) (mvT hZ (wi hw 249 rfl)) (by decide) (backOf (W := 1) (rm_SB l Z a0 hw [] G1 a235 sb vb kv kk pre h235 n0 Z246 (O2) (P5) f240 f241 f242 f243 f244 A235 f248 f249 (hz0) (hc) (hm) (hl) (hne) (ge238) (ne236) (ne237) Old245) hZ (wi hw 249 rfl) (wi hw 6 rfl) (by decide) (by decide)) (g := (mkF m 5 #[vR sb] [(.ref sb), (.ref a235), (.ref a235)])) rfl (by rw [hml]; rfl) (Steps.refl _) (a := a235) (argsL := [(.ref sb)]) (rest := [(.ref a235)]) (lenOf pd__Ljava_lang_StringBuilder__V rfl) rfl (by show 2 * 0 + _ ≤ _; exact Nat.le_of_eq rfl) (hb hby d22_5) (fun _ _ => ⟨rfl, e235, (by decide : 1 + 1 ≤ _), (by decide : 4 + 16 ≤ _)⟩)
 dsimp only [Pt.U, Pt.locs, Pt.cells, Pt.slots] at X250 l250 y250 z250 st250 hQ250
 subst l250 y250 z250
 obtain ⟨t_250, kt_250, rfl, NQ250, K250, pq250_0, fq250_0, fq250_1, fq250_2⟩ := hQ250
 have N251 := Fr.app N0 NQ250
 have f261 := A235.keep K250
 have Kp263 : Keep h0 T250.heap [] := Kp247.trans K250 (allS (Or.inr (Nat.le_trans K00.1 (Nat.le_of_eq g235.symm))) all0)
 refine Rch.st (fun _ k => st250.trans k) ?_
 show Rch p e below T250 (mkF m 8 #[vR sb] [(.ref a235)]) _
 exact Rch.retV X250 hx Bd.returns rfl (Or.inr (Or.inr (Or.inr (Or.inr ⟨rfl, rfl, rfl⟩)))) (hb hby d22_8) (by rw [(rfl : T250.heap = T250.heap)]; exact ⟨a235, t_250, kt_250, rfl, N251, Kp263, (Nat.le_trans K00.1 (Nat.le_of_eq g235.symm)), (Nat.le_trans Kp247.1 pq250_0), f261, fq250_0, fq250_1, fq250_2⟩) (by decide) (by decide)

def own_Mir (Z : State) (C : String) (m : Addr) : Prop := ∃ (c : ClassId) (k : Class), Z.vm.findClass C = some c ∧ Z.vm.classes[c]? = some k ∧ k.mirror = some m
section OwnMir
variable {p : Program} {l : Launch} {e : Env} {R : Room} {s : State} {m : MethodId} {args : Array Value} {below : List Frame} {meth : Method} {c : Code} {T Z : State} {locs : List Loc} {cells slots : Nat} {a0 : Array Value} {h : Heap}
/-- ldc of a class whose Class object is there -/
theorem own_ldcM (X : Stand p l e R s m args below meth c T locs cells slots) (hx : p.tables.exec = Jvm.exec) (hZ : Z.Warmed39 s.vm) {own C : String} {index : Nat} {a : Addr} (hown : s.vm.findClass own = some m.cls) (w : (Cond.classLink own index C).before a0 Z = true) (M : own_Mir Z C a) (eT : T.heap = h)
    {g : JFrame} (hg : g.method = m) (hd : decode c.code g.pc = .ok (.ldc index, 2)) : ∃ T', Stand p l e R s m args below meth c T' locs cells slots ∧ T'.heap = h ∧ ∀ target, Steps p.tables e below (T'.setTop { g with pc := g.pc + 2, stack := .ref a :: g.stack }) target → Steps p.tables e below (T.setTop g) target := by
  obtain ⟨c0, k, m1, m2, m3⟩ := M
  obtain ⟨k', q, ek⟩ := hZ.alike.2.2 _ _ m2
  have hm : k'.mirror = some a := by rw [ek]; exact m3
  have hev : (Term.mirror C).eval args s none [] s = some (.ref a) := by simp [Term.eval, hZ.alike.findClass, m1, q, hm]
  obtain ⟨vm', X', st⟩ := X.ldcMirror hx hown (mv hZ w) hev hg hd
  exact ⟨_, X', eT, st⟩
/-- getClass() through an interface -/
theorem own_gcI (X : Stand p l e R s m args below meth c T locs cells slots) (hx : p.tables.exec = Jvm.exec) (hZ : Z.Warmed39 s.vm) {own C : String} {index count : Nat} {xi : MethodName} (hown : s.vm.findClass own = some m.cls)
    (w1 : (Cond.methodLink own index xi).before args s = true) (w2 : (Cond.declares Stand.gcN).before args s = true) (w3 : (Cond.interfaceMethod xi.cls "java/lang/Object" xi.name xi.desc).before args s = true) (w4 : (Cond.selects C xi Stand.gcN).before args s = true) (w5 : (Cond.instanceMethod Stand.gcN).before args s = true)
    (w6 : (Cond.publicMethod Stand.gcN).before args s = true) (w7 : (Cond.unhidden C xi.name xi.desc).before args s = true) (w8 : (Cond.castable C xi.cls).before args s = true) (w9 : (Cond.native Stand.gcN).before args s = true)
    (hp : xi.cls ≠ "java/lang/invoke/MethodHandle" ∧ xi.cls ≠ "java/lang/invoke/VarHandle") (hxo : xi.cls ≠ "java/lang/Object") (hname : xi.name = "getClass") (hdesc : xi.desc = "()Ljava/lang/Class;")
    (eT : T.heap = h) {b mir : Addr} (E : Exa Z h b C) (M : own_Mir Z C mir) {g : JFrame} (hg : g.method = m) (hsize : g.locals.size = c.maxLocals) {rest : List Value} (hstack : g.stack = .ref b :: rest) (hdg : decode c.code g.pc = .ok (.invokeinterface index count, 5))
    (hf : 1 ≤ R.frames) (hl : 2 * g.monitorRoom + (rest.map fun v => v.category).sum + (nativeFrameWords "java/lang/Object" "getClass" 1 + 11) ≤ R.locals) :
    ∃ T', Stand p l e R s m args below meth c T' locs cells slots ∧ T'.heap = h ∧ ∀ target, Steps p.tables e below (T'.setTop { g with pc := g.pc + 5, stack := .ref mir :: rest }) target → Steps p.tables e below (T.setTop g) target := by
  obtain ⟨cB, kB, i1, i2, i3⟩ := isOf hZ eT E
  obtain ⟨c0, k, m1, m2, m3⟩ := M
  have j1 : Z.vm.findClass C = some cB := by rw [← hZ.alike.findClass]; exact i1
  cases m1.symm.trans j1
  obtain ⟨k', q, ek⟩ := hZ.alike.2.2 _ _ m2
  cases i2.symm.trans q
  obtain ⟨vm', X', st⟩ := X.getClassOfI hx hown w1 w2 w3 w4 w5 w6 w7 w8 w9 hp hxo hname hdesc i1 i2 i3 (by rw [ek]; exact m3) hg hsize hstack hdg hf hl
  exact ⟨_, X', eT, st⟩
end OwnMir
abbrev c23 : ByteArray := jdk_43_method_3_code
theorem d23_0 : decode c23 0 = .ok (.iload_n 0, 1) := by decide +kernel
theorem d23_1 : decode c23 1 = .ok (.sipush 255, 3) := by decide +kernel
theorem d23_4 : decode c23 4 = .ok (.if_icmp .gt 7, 3) := by decide +kernel
theorem d23_7 : decode c23 7 = .ok (.iconst 1, 1) := by decide +kernel
theorem d23_8 : decode c23 8 = .ok (.goto 4, 3) := by decide +kernel
theorem d23_12 : decode c23 12 = .ok (.ireturn, 1) := by decide +kernel
theorem pn_java_lang_StringLatin1 : plainName "java/lang/StringLatin1" = true := by first | (simp [plainName, overriddenIn]; done) | decide +kernel
theorem ef_rm_ce (m : MethodId) (xx : Int32)  : entryFrame m #[(.int xx)] 1 = mkF m 0 #[vI xx] [] := by  first | (simp [entryFrame, mkF, argsToLocals, Value.category, maxLocals]; done) | rfl
def Q_rm_ce (Z : State) (xx : Int32) (h0 : Heap) (n0 : Nat) (v : Option Value) (h : Heap) (L : List Loc) : Prop := (v = some (.int (1 : Int32))) ∧ (Fr n0 L) ∧ (h = h0)
set_option maxRecDepth 65536 in
set_option maxHeartbeats 40000000 in
theorem rm_ce (l : Launch) (Z : State) (a0 : Array Value) (hw : ∀ d ∈ tables_1, d.before a0 Z = true) (ws : List Jvm.Cond) (xx : Int32) (h0 : Heap) (n0 : Nat) (Z0 : n0 ≤ h0.size) (hx8 : ¬ (255 : Int32) < xx) :
    MetN l Z y_25 c23 1 (some .boolean) ws (Rm 0 0 0 0) #[(.int xx)] h0 (Q_rm_ce Z xx h0 n0) := by
 refine MetFree.of_bodySF (plainFor_of_name pn_java_lang_StringLatin1) hisR ?_
 intro p e s m args below meth c s₁ Bd hml0 hP hK
 obtain ⟨rfl, hZ, hh⟩ := hP
 have hx := Bd.exec
 have hby := Bd.bytes
 have hml : c.maxLocals = 1 := hml0
 have hown : s.vm.findClass "java/lang/StringLatin1" = some m.cls := findClass_of_methodNamed Bd.named
 have X0 : Stand p l e (Rm 0 0 0 0) s m #[(.int xx)] below meth c s₁ [] 0 0 := Stand.of_body Bd
 have e0 : s₁.heap = h0 := by rw [← hh, Bd.state]; rfl
 have N0 := Fr.nil n0
 have K00 : Keep h0 h0 [] := Keep.refl _ _
 show Rch p e below s₁ (entryFrame m #[(.int xx)] 1) (FinP s (Q_rm_ce Z xx h0 n0) 0 0)
 refine Rch.cast (ef_rm_ce m xx) ?_
 show Rch p e below s₁ (mkF m 0 #[vI xx] []) _
 refine w_iloadN (pc' := 1) X0 hx hby d23_0 rfl rfl ?_
 refine w_sipush (pc' := 4) (v := 255) X0 hx hby d23_1 rfl rfl ?_
 refine w_icmpNo (pc' := 7) X0 hx hby d23_4 (XT.ii_gt_f (hx8)) rfl ?_
 refine w_iconst (pc' := 8) (v := 1) X0 hx hby d23_7 rfl rfl ?_
 refine w_goto (pc' := 12) X0 hx hby d23_8 (by decide) ?_
 exact Rch.retV X0 hx Bd.returns rfl (Or.inl ⟨rfl, by simp, _, rfl⟩) (hb hby d23_12) (by rw [e0]; exact ⟨rfl, N0, rfl⟩) (by decide) (by decide)

abbrev c24 : ByteArray := jdk_43_method_46_code
theorem d24_0 : decode c24 0 = .ok (.iconst 1, 1) := by decide +kernel
theorem d24_1 : decode c24 1 = .ok (.newarray .byte, 2) := by decide +kernel
theorem d24_3 : decode c24 3 = .ok (.dup, 1) := by decide +kernel
theorem d24_4 : decode c24 4 = .ok (.iconst 0, 1) := by decide +kernel
theorem d24_5 : decode c24 5 = .ok (.iload_n 0, 1) := by decide +kernel
theorem d24_6 : decode c24 6 = .ok (.i2b, 1) := by decide +kernel
theorem d24_7 : decode c24 7 = .ok (.bastore, 1) := by decide +kernel
theorem d24_8 : decode c24 8 = .ok (.areturn, 1) := by decide +kernel
theorem ef_rm_tb (m : MethodId) (xx : Int32)  : entryFrame m #[(.int xx)] 1 = mkF m 0 #[vI xx] [] := by  first | (simp [entryFrame, mkF, argsToLocals, Value.category, maxLocals]; done) | rfl
def Q_rm_tb (Z : State) (xx : Int32) (h0 : Heap) (n0 : Nat) (v : Option Value) (h : Heap) (L : List Loc) : Prop := ∃ (t : Addr) (kt : ClassId), (v = some (.ref t)) ∧ (Fr n0 L) ∧ (Keep h0 h []) ∧ (h0.size ≤ t) ∧ (Arv Z h t kt .byte (1 : Int32) [(.int (own_by xx))] (.int (0 : Int32)))
set_option maxRecDepth 65536 in
set_option maxHeartbeats 40000000 in
theorem rm_tb (l : Launch) (Z : State) (a0 : Array Value) (hw : ∀ d ∈ tables_1, d.before a0 Z = true) (ws : List Jvm.Cond) (xx : Int32) (h0 : Heap) (n0 : Nat) (Z0 : n0 ≤ h0.size)  :
    MetN l Z y_26 c24 1 (some (.array .byte)) ws (Rm 0 1 1 0) #[(.int xx)] h0 (Q_rm_tb Z xx h0 n0) := by
 refine MetFree.of_bodySF (plainFor_of_name pn_java_lang_StringLatin1) hisR ?_
 intro p e s m args below meth c s₁ Bd hml0 hP hK
 obtain ⟨rfl, hZ, hh⟩ := hP
 have hx := Bd.exec
 have hby := Bd.bytes
 have hml : c.maxLocals = 1 := hml0
 have hown : s.vm.findClass "java/lang/StringLatin1" = some m.cls := findClass_of_methodNamed Bd.named
 have X0 : Stand p l e (Rm 0 1 1 0) s m #[(.int xx)] below meth c s₁ [] 0 0 := Stand.of_body Bd
 have e0 : s₁.heap = h0 := by rw [← hh, Bd.state]; rfl
 have N0 := Fr.nil n0
 have K00 : Keep h0 h0 [] := Keep.refl _ _
 show Rch p e below s₁ (entryFrame m #[(.int xx)] 1) (FinP s (Q_rm_tb Z xx h0 n0) 1 1)
 refine Rch.cast (ef_rm_tb m xx) ?_
 show Rch p e below s₁ (mkF m 0 #[vI xx] []) _
 refine w_iconst (pc' := 1) (v := 1) X0 hx hby d24_0 rfl rfl ?_
 obtain ⟨T265, h265, kc265, X265, e265, E265, A265, st265⟩ := newP X0 hx hZ (wi hw 18 rfl) e0 (g := (mkF m 1 #[vI xx] [(.int 1)])) rfl (hb hby d24_1) rfl (by decide : ¬ ((1 : Int32) < (0 : Int32))) (cap := 1) (by decide : (1 : Int32).toNatClampNeg ≤ 1) (by decide) (by decide) (by decide)
 obtain ⟨a265, g265⟩ : ∃ z, z = h0.size := ⟨_, rfl⟩
 rw [← g265] at A265 st265
 have ge266 : n0 ≤ a265 := Nat.le_trans Z0 (Nat.le_of_eq g265.symm)
 have Kp269 : Keep h0 h265 [] := K00.ext E265
 have f270 : Arv Z h265 a265 kc265 .byte (1 : Int32) [(.int (0 : Int32))] (.int (0 : Int32)) := (Arv.new A265 (by decide : ¬ ((1 : Int32) < (0 : Int32)))).pad (pad_rep [] (.int (0 : Int32)) 1)
 refine Rch.st (fun _ k => st265 _ k) ?_
 show Rch p e below T265 (mkF m 3 #[vI xx] [(.ref a265)]) _
 refine w_dup (pc' := 4) X265 hx hby d24_3 rfl rfl ?_
 refine w_iconst (pc' := 5) (v := 0) X265 hx hby d24_4 rfl rfl ?_
 refine w_iloadN (pc' := 6) X265 hx hby d24_5 rfl rfl ?_
 refine w_i2b (pc' := 7) X265 hx hby d24_6 rfl ?_
 obtain ⟨T271, h271, X271, e271, W271, V271, st271⟩ := own_stB X265 hx hZ e265 f270 (j := (0 : Int32)) ⟨by decide, by decide⟩ 0 (by decide) (by decide : 0 < 1) (g := (mkF m 7 #[vI xx] [(.int (xx).toInt8.toInt32), (.int 0), (.ref a265), (.ref a265)])) rfl rfl (hb hby d24_7)
 have N272 := Fr.snoc X271 N0 ge266
 have Kp274 : Keep h0 h271 [] := Kp269.wr W271 (Or.inr (Nat.le_trans K00.1 (Nat.le_of_eq g265.symm)))
 have f275 : Arv Z h271 a265 kc265 .byte (1 : Int32) [(.int ((xx).toInt8.toInt32).toInt8.toInt32)] (.int (0 : Int32)) := V271
 refine Rch.st (fun _ k => st271 _ k) ?_
 show Rch p e below T271 (mkF m 8 #[vI xx] [(.ref a265)]) _
 exact Rch.retV X271 hx Bd.returns rfl (Or.inr (Or.inr (Or.inr (Or.inr ⟨rfl, rfl, rfl⟩)))) (hb hby d24_8) (by rw [e271]; exact ⟨a265, kc265, rfl, N272, Kp274, (Nat.le_trans K00.1 (Nat.le_of_eq g265.symm)), f275⟩) (by decide) (by decide)

abbrev c25 : ByteArray := jdk_42_method_151_code
theorem d25_0 : decode c25 0 = .ok (.aload_n 0, 1) := by decide +kernel
theorem d25_1 : decode c25 1 = .ok (.invokespecial 1, 3) := by decide +kernel
theorem d25_4 : decode c25 4 = .ok (.aload_n 0, 1) := by decide +kernel
theorem d25_5 : decode c25 5 = .ok (.aload_n 1, 1) := by decide +kernel
theorem d25_6 : decode c25 6 = .ok (.putfield 9, 3) := by decide +kernel
theorem d25_9 : decode c25 9 = .ok (.aload_n 0, 1) := by decide +kernel
theorem d25_10 : decode c25 10 = .ok (.iload_n 2, 1) := by decide +kernel
theorem d25_11 : decode c25 11 = .ok (.putfield 15, 3) := by decide +kernel
theorem d25_14 : decode c25 14 = .ok (.return_, 1) := by decide +kernel
theorem ef_rm_BB (m : MethodId) (a5 : Addr) (bb : Addr)  : entryFrame m #[(.ref a5), (.ref bb), (.int (0 : Int32))] 3 = mkF m 0 #[vR a5, vR bb, vI 0] [] := by  first | (simp [entryFrame, mkF, argsToLocals, Value.category, maxLocals]; done) | rfl
def Q_rm_BB (Z : State) (a5 : Addr) (bb : Addr) (h0 : Heap) (n0 : Nat) (v : Option Value) (h : Heap) (L : List Loc) : Prop := (v = none) ∧ (Fr n0 L) ∧ (Keep h0 h [a5]) ∧ (Fld Z h a5 "java/lang/String" "coder" "B" (.int (0 : Int32))) ∧ (Fld Z h a5 "java/lang/String" "value" "[B" (.ref bb)) ∧ (Fld Z h a5 "java/lang/String" "hash" "I" (.int (0 : Int32))) ∧ (Fld Z h a5 "java/lang/String" "hashIsZero" "Z" (.int (0 : Int32)))
set_option maxRecDepth 65536 in
set_option maxHeartbeats 40000000 in
theorem rm_BB (l : Launch) (Z : State) (a0 : Array Value) (hw : ∀ d ∈ tables_1, d.before a0 Z = true) (ws : List Jvm.Cond) (a5 : Addr) (bb : Addr) (h0 : Heap) (n0 : Nat) (Z0 : n0 ≤ h0.size) (f0 : Exa Z h0 a5 "java/lang/String") (f1 : Fld Z h0 a5 "java/lang/String" "coder" "B" (.int (0 : Int32))) (f2 : Fld Z h0 a5 "java/lang/String" "value" "[B" .null) (f3 : Fld Z h0 a5 "java/lang/String" "hash" "I" (.int (0 : Int32))) (f4 : Fld Z h0 a5 "java/lang/String" "hashIsZero" "Z" (.int (0 : Int32))) (ga : n0 ≤ a5) :
    MetN l Z y_27 c25 3 none ws (Rm 1 0 0 12) #[(.ref a5), (.ref bb), (.int (0 : Int32))] h0 (Q_rm_BB Z a5 bb h0 n0) := by
 refine MetFree.of_bodySF (plainFor_of_name pn_java_lang_String) hisR ?_
 intro p e s m args below meth c s₁ Bd hml0 hP hK
 obtain ⟨rfl, hZ, hh⟩ := hP
 have hx := Bd.exec
 have hby := Bd.bytes
 have hml : c.maxLocals = 3 := hml0
 have hown : s.vm.findClass "java/lang/String" = some m.cls := findClass_of_methodNamed Bd.named
 have hnm := (name_of_methodNamed Bd.named Bd.method).1
 have X0 : Stand p l e (Rm 1 0 0 12) s m #[(.ref a5), (.ref bb), (.int (0 : Int32))] below meth c s₁ [] 0 0 := Stand.of_body Bd
 have e0 : s₁.heap = h0 := by rw [← hh, Bd.state]; rfl
 have N0 := Fr.nil n0
 have K00 : Keep h0 h0 [a5] := Keep.refl _ _
 show Rch p e below s₁ (entryFrame m #[(.ref a5), (.ref bb), (.int (0 : Int32))] 3) (FinP s (Q_rm_BB Z a5 bb h0 n0) 0 0)
 refine Rch.cast (ef_rm_BB m a5 bb) ?_
 show Rch p e below s₁ (mkF m 0 #[vR a5, vR bb, vI 0] []) _
 refine w_aloadN (pc' := 1) X0 hx hby d25_0 rfl rfl rfl ?_
 obtain ⟨T276, X276, e276, st276⟩ := initO X0 hx hZ hown (wi hw 23 rfl) (wi hw 24 rfl) (wi hw 25 rfl) e0 (g := (mkF m 1 #[vR a5, vR bb, vI 0] [(.ref a5)])) rfl (by rw [hml]; rfl) rfl (hb hby d25_1) (by decide) (W := 0) (by show 2 * 0 + _ ≤ _; exact Nat.le_of_eq rfl) (by decide)
 refine Rch.st (fun _ k => st276 _ k) ?_
 show Rch p e below T276 (mkF m 4 #[vR a5, vR bb, vI 0] []) _
 refine w_aloadN (pc' := 5) X276 hx hby d25_4 rfl rfl rfl ?_
 refine w_aloadN (pc' := 6) X276 hx hby d25_5 rfl rfl rfl ?_
 obtain ⟨T277, h277, X277, e277, W277, st277⟩ := putF X276 hx hZ hown (host := "") (Or.inl (wi hw 26 rfl)) Via.refl e276 f2 f0 (Or.inr ⟨(wi hw 27 rfl), rfl, hnm⟩) (wi hw 14 rfl) (ty := (.array .byte)) (by decide) rfl rfl (g := (mkF m 6 #[vR a5, vR bb, vI 0] [(.ref bb), (.ref a5)])) rfl rfl (hb hby d25_6)
 have N278 := Fr.snoc X277 N0 ga
 have f279 := f0.wr W277
 have f280 := f1.other W277 (Or.inr (slot_ne (t := .byte) (t' := (.array .byte)) (Or.inr (wi hw 29 rfl)) (Or.inr (wi hw 27 rfl)) (by decide) (by decide) (by decide)))
 have f281 := f2.same W277
 have f282 := f3.other W277 (Or.inr (slot_ne (t := .int) (t' := (.array .byte)) (Or.inl (wi hw 130 rfl)) (Or.inr (wi hw 27 rfl)) (by decide) (by decide) (by decide)))
 have f283 := f4.other W277 (Or.inr (slot_ne (t := .boolean) (t' := (.array .byte)) (Or.inl (wi hw 132 rfl)) (Or.inr (wi hw 27 rfl)) (by decide) (by decide) (by decide)))
 have Kp285 : Keep h0 h277 [a5] := K00.wr W277 (Or.inl (List.mem_of_getElem? (i := 0) rfl))
 refine Rch.st (fun _ k => st277 _ k) ?_
 show Rch p e below T277 (mkF m 9 #[vR a5, vR bb, vI 0] []) _
 refine w_aloadN (pc' := 10) X277 hx hby d25_9 rfl rfl rfl ?_
 refine w_iloadN (pc' := 11) X277 hx hby d25_10 rfl rfl ?_
 obtain ⟨T286, h286, X286, e286, W286, st286⟩ := putF X277 hx hZ hown (host := "") (Or.inl (wi hw 28 rfl)) Via.refl e277 f280 f279 (Or.inr ⟨(wi hw 29 rfl), rfl, hnm⟩) (wi hw 14 rfl) (ty := .byte) (by decide) rfl rfl (g := (mkF m 11 #[vR a5, vR bb, vI 0] [(.int 0), (.ref a5)])) rfl rfl (hb hby d25_11)
 have N287 := Fr.snoc X286 N278 ga
 have f289 := f280.same W286
 have f290 := f281.other W286 (Or.inr (slot_ne (t := (.array .byte)) (t' := .byte) (Or.inr (wi hw 27 rfl)) (Or.inr (wi hw 29 rfl)) (by decide) (by decide) (by decide)))
 have f291 := f282.other W286 (Or.inr (slot_ne (t := .int) (t' := .byte) (Or.inl (wi hw 130 rfl)) (Or.inr (wi hw 29 rfl)) (by decide) (by decide) (by decide)))
 have f292 := f283.other W286 (Or.inr (slot_ne (t := .boolean) (t' := .byte) (Or.inl (wi hw 132 rfl)) (Or.inr (wi hw 29 rfl)) (by decide) (by decide) (by decide)))
 have Kp294 : Keep h0 h286 [a5] := Kp285.wr W286 (Or.inl (List.mem_of_getElem? (i := 0) rfl))
 refine Rch.st (fun _ k => st286 _ k) ?_
 show Rch p e below T286 (mkF m 14 #[vR a5, vR bb, vI 0] []) _
 exact Rch.ret0 X286 hx Bd.returns (hb hby d25_14) (by rw [e286]; exact ⟨rfl, N287, Kp294, f289, f290, f291, f292⟩) (by decide) (by decide)

abbrev c26 : ByteArray := jdk_42_method_139_code
theorem d26_0 : decode c26 0 = .ok (.getstatic 38, 3) := by decide +kernel
theorem d26_3 : decode c26 3 = .ok (.ifCond .eq 23, 3) := by decide +kernel
theorem d26_6 : decode c26 6 = .ok (.iload_n 0, 1) := by decide +kernel
theorem d26_7 : decode c26 7 = .ok (.invokestatic 1015, 3) := by decide +kernel
theorem d26_10 : decode c26 10 = .ok (.ifCond .eq 16, 3) := by decide +kernel
theorem d26_13 : decode c26 13 = .ok (.new 10, 3) := by decide +kernel
theorem d26_16 : decode c26 16 = .ok (.dup, 1) := by decide +kernel
theorem d26_17 : decode c26 17 = .ok (.iload_n 0, 1) := by decide +kernel
theorem d26_18 : decode c26 18 = .ok (.invokestatic 1018, 3) := by decide +kernel
theorem d26_21 : decode c26 21 = .ok (.iconst 0, 1) := by decide +kernel
theorem d26_22 : decode c26 22 = .ok (.invokespecial 209, 3) := by decide +kernel
theorem d26_25 : decode c26 25 = .ok (.areturn, 1) := by decide +kernel
theorem ef_rm_vo (m : MethodId) (G1 : Int32) (xx : Int32)  : entryFrame m #[(.int xx)] 1 = mkF m 0 #[vI xx] [] := by  first | (simp [entryFrame, mkF, argsToLocals, Value.category, maxLocals]; done) | rfl
def Q_rm_vo (Z : State) (G1 : Int32) (xx : Int32) (h0 : Heap) (n0 : Nat) (v : Option Value) (h : Heap) (L : List Loc) : Prop := ∃ (ra : Addr) (t : Addr) (kt : ClassId), (v = some (.ref ra)) ∧ (Fr n0 L) ∧ (Keep h0 h []) ∧ (h0.size ≤ ra) ∧ (h0.size ≤ t) ∧ (Exa Z h ra "java/lang/String") ∧ (Fld Z h ra "java/lang/String" "coder" "B" (.int (0 : Int32))) ∧ (Fld Z h ra "java/lang/String" "value" "[B" (.ref t)) ∧ (Fld Z h ra "java/lang/String" "hash" "I" (.int (0 : Int32))) ∧ (Fld Z h ra "java/lang/String" "hashIsZero" "Z" (.int (0 : Int32))) ∧ (Arv Z h t kt .byte (1 : Int32) [(.int (own_by xx))] (.int (0 : Int32)))
theorem pd__C_Z : parseMethodDescriptor "(C)Z" = some ⟨[.char], (some .boolean)⟩ := by decide +kernel
theorem pd__C__B : parseMethodDescriptor "(C)[B" = some ⟨[.char], (some (.array .byte))⟩ := by decide +kernel
theorem pd___BB_V : parseMethodDescriptor "([BB)V" = some ⟨[(.array .byte), .byte], none⟩ := by decide +kernel
set_option maxRecDepth 65536 in
set_option maxHeartbeats 40000000 in
theorem rm_vo (l : Launch) (Z : State) (a0 : Array Value) (hw : ∀ d ∈ tables_1, d.before a0 Z = true) (ws : List Jvm.Cond) (G1 : Int32) (xx : Int32) (h0 : Heap) (n0 : Nat) (Z0 : n0 ≤ h0.size) (O2 : Sta Z Z.heap "java/lang/String" "COMPACT_STRINGS" "Z" (.int G1)) (P5 : ¬ G1 = 0) (hx8 : ¬ (255 : Int32) < xx) (Old0 : OldL Z n0 h0) :
    MetN l Z y_28 c26 1 (some (.object "java/lang/String")) ws (Rm 2 2 5 27) #[(.int xx)] h0 (Q_rm_vo Z G1 xx h0 n0) := by
 refine MetFree.of_bodySF (plainFor_of_name pn_java_lang_String) hisR ?_
 intro p e s m args below meth c s₁ Bd hml0 hP hK
 obtain ⟨rfl, hZ, hh⟩ := hP
 have hx := Bd.exec
 have hby := Bd.bytes
 have hml : c.maxLocals = 1 := hml0
 have hown : s.vm.findClass "java/lang/String" = some m.cls := findClass_of_methodNamed Bd.named
 have X0 : Stand p l e (Rm 2 2 5 27) s m #[(.int xx)] below meth c s₁ [] 0 0 := Stand.of_body Bd
 have e0 : s₁.heap = h0 := by rw [← hh, Bd.state]; rfl
 have N0 := Fr.nil n0
 have K00 : Keep h0 h0 [] := Keep.refl _ _
 show Rch p e below s₁ (entryFrame m #[(.int xx)] 1) (FinP s (Q_rm_vo Z G1 xx h0 n0) 2 5)
 refine Rch.cast (ef_rm_vo m G1 xx) ?_
 show Rch p e below s₁ (mkF m 0 #[vI xx] []) _
 obtain ⟨T295, X295, e295, st295⟩ := getS X0 hx hZ hown (host := "") (wi hw 8 rfl) Via.refl e0 (O2.ext Old0.2) (g := (mkF m 0 #[vI xx] [])) rfl (hb hby d26_0)
 refine Rch.st (fun _ k => st295 _ k) ?_
 show Rch p e below T295 (mkF m 3 #[vI xx] [(.int G1)]) _
 refine w_ifNo (pc' := 6) X295 hx hby d26_3 (XT.i0_eq_f (P5)) rfl ?_
 refine w_iloadN (pc' := 7) X295 hx hby d26_6 rfl rfl ?_
 obtain ⟨_, _, ⟨T296, L296, k296, n296⟩, -, X296, ⟨Lc296, hQ296, l296, y296, z296⟩, st296⟩ := Jvm.LawKit.callS X295 hx (y := y_25) hown (mvT hZ (wi hw 9 rfl)) (mvT hZ (wi hw 10 rfl)) (mvT hZ (wi hw 11 rfl)) (mvT hZ (wi hw 12 rfl)) (by decide) (backOf (W := 0) (rm_ce l Z a0 hw [] xx h0 n0 Z0 (hx8)) hZ (wi hw 12 rfl) (wi hw 11 rfl) (by decide) (by decide)) (g := (mkF m 7 #[vI xx] [(.int xx)])) rfl (by rw [hml]; rfl) (argsL := [(.int xx)]) (rest := []) (lenOf pd__C_Z rfl) rfl (by show 2 * 0 + _ ≤ _; exact Nat.le_of_eq rfl) (hb hby d26_7) (fun _ _ => ⟨rfl, e295, (by decide : 0 + 0 ≤ _), (by decide : 0 + 0 ≤ _)⟩)
 dsimp only [Pt.U, Pt.locs, Pt.cells, Pt.slots] at X296 l296 y296 z296 st296 hQ296
 subst l296 y296 z296
 obtain ⟨rfl, NQ296, K296⟩ := hQ296
 have N297 := Fr.app N0 NQ296
 refine Rch.st (fun _ k => st296 _ k) ?_
 show Rch p e below T296 (mkF m 10 #[vI xx] [(.int 1)]) _
 refine w_ifNo (pc' := 13) X296 hx hby d26_10 (XT.i0_eq_f (by decide)) rfl ?_
 obtain ⟨T298, h298, X298, e298, E298, A298, D298, -, st298⟩ := newO X296 hx hZ hown (wi hw 13 rfl) (wi hw 14 rfl) (wi hw 6 rfl) K296 (g := (mkF m 13 #[vI xx] [])) rfl (hb hby d26_13) (by decide) (by decide)
 obtain ⟨a298, g298⟩ : ∃ z, z = h0.size := ⟨_, rfl⟩
 rw [← g298] at A298 D298 st298
 have ge299 : n0 ≤ a298 := Nat.le_trans Z0 (Nat.le_of_eq g298.symm)
 have Z302 := Nat.le_trans Z0 E298.1
 have Kp303 : Keep h0 h298 [] := K00.ext E298
 have f304 : Fld Z h298 a298 "java/lang/String" "coder" "B" (.int (0 : Int32)) := D298 (Or.inr (wi hw 29 rfl)) (ty := .byte) (by decide)
 have f305 : Fld Z h298 a298 "java/lang/String" "value" "[B" .null := D298 (Or.inr (wi hw 27 rfl)) (ty := (.array .byte)) (by decide)
 have f306 : Fld Z h298 a298 "java/lang/String" "hash" "I" (.int (0 : Int32)) := D298 (Or.inl (wi hw 130 rfl)) (ty := .int) (by decide)
 have f307 : Fld Z h298 a298 "java/lang/String" "hashIsZero" "Z" (.int (0 : Int32)) := D298 (Or.inl (wi hw 132 rfl)) (ty := .boolean) (by decide)
 refine Rch.st (fun _ k => st298 _ k) ?_
 show Rch p e below T298 (mkF m 16 #[vI xx] [(.ref a298)]) _
 refine w_dup (pc' := 17) X298 hx hby d26_16 rfl rfl ?_
 refine w_iloadN (pc' := 18) X298 hx hby d26_17 rfl rfl ?_
 obtain ⟨_, _, ⟨T308, L308, k308, n308⟩, -, X308, ⟨Lc308, hQ308, l308, y308, z308⟩, st308⟩ := Jvm.LawKit.callS X298 hx (y := y_26) hown (mvT hZ (wi hw 15 rfl)) (mvT hZ (wi hw 16 rfl)) (mvT hZ (wi hw 11 rfl)) (mvT hZ (wi hw 17 rfl)) (by decide) (backOf (W := 2) (rm_tb l Z a0 hw [] xx h298 n0 Z302 ) hZ (wi hw 17 rfl) (wi hw 11 rfl) (by decide) (by decide)) (g := (mkF m 18 #[vI xx] [(.int xx), (.ref a298), (.ref a298)])) rfl (by rw [hml]; rfl) (argsL := [(.int xx)]) (rest := [(.ref a298), (.ref a298)]) (lenOf pd__C__B rfl) rfl (by show 2 * 0 + _ ≤ _; exact Nat.le_of_eq rfl) (hb hby d26_18) (fun _ _ => ⟨rfl, e298, (by decide : 1 + 1 ≤ _), (by decide : 4 + 1 ≤ _)⟩)
 dsimp only [Pt.U, Pt.locs, Pt.cells, Pt.slots] at X308 l308 y308 z308 st308 hQ308
 subst l308 y308 z308
 obtain ⟨t_308, kt_308, rfl, NQ308, K308, pq308_0, fq308_0⟩ := hQ308
 have N309 := Fr.app N297 NQ308
 have ne310 := nlt A298.lt pq308_0
 have f312 := A298.keep K308
 have f313 := f304.keep K308 nin0
 have f314 := f305.keep K308 nin0
 have f315 := f306.keep K308 nin0
 have f316 := f307.keep K308 nin0
 have Kp318 : Keep h0 T308.heap [] := Kp303.trans K308 all0
 have Z319 := Nat.le_trans Z302 K308.1
 refine Rch.st (fun _ k => st308 _ k) ?_
 show Rch p e below T308 (mkF m 21 #[vI xx] [(.ref t_308), (.ref a298), (.ref a298)]) _
 refine w_iconst (pc' := 22) (v := 0) X308 hx hby d26_21 rfl rfl ?_
 obtain ⟨_, _, ⟨T320, L320, k320, n320⟩, -, X320, ⟨Lc320, hQ320, l320, y320, z320⟩, st320⟩ := X308.specialBack hx (y := y_27) rfl hown (mvT hZ (wi hw 19 rfl)) (mvT hZ (wi hw 20 rfl)) (mvT hZ (wi hw 22 rfl)) (by decide) (backOf (W := 1) (rm_BB l Z a0 hw [] a298 t_308 T308.heap n0 Z319 f312 f313 f314 f315 f316 (ge299)) hZ (wi hw 22 rfl) (wi hw 6 rfl) (by decide) (by decide)) (g := (mkF m 22 #[vI xx] [(.int 0), (.ref t_308), (.ref a298), (.ref a298)])) rfl (by rw [hml]; rfl) (Steps.refl _) (a := a298) (argsL := [(.ref t_308), (.int 0)]) (rest := [(.ref a298)]) (lenOf pd___BB_V rfl) rfl (by show 2 * 0 + _ ≤ _; exact Nat.le_of_eq rfl) (hb hby d26_22) (fun _ _ => ⟨rfl, (rfl : T308.heap = T308.heap), (by decide : 2 + 0 ≤ _), (by decide : 5 + 0 ≤ _)⟩)
 dsimp only [Pt.U, Pt.locs, Pt.cells, Pt.slots] at X320 l320 y320 z320 st320 hQ320
 subst l320 y320 z320
 obtain ⟨rfl, NQ320, K320, fq320_0, fq320_1, fq320_2, fq320_3⟩ := hQ320
 have N321 := Fr.app N309 NQ320
 have f322 := f312.keep K320
 have f323 := fq308_0.keep K320 (ninS (Ne.symm ne310) nin0)
 have Kp325 : Keep h0 T320.heap [] := Kp318.trans K320 (allS (Or.inr (Nat.le_trans K00.1 (Nat.le_of_eq g298.symm))) all0)
 refine Rch.st (fun _ k => st320.trans k) ?_
 show Rch p e below T320 (mkF m 25 #[vI xx] [(.ref a298)]) _
 exact Rch.retV X320 hx Bd.returns rfl (Or.inr (Or.inr (Or.inr (Or.inr ⟨rfl, rfl, rfl⟩)))) (hb hby d26_25) (by rw [(rfl : T320.heap = T320.heap)]; exact ⟨a298, t_308, kt_308, rfl, N321, Kp325, (Nat.le_trans K00.1 (Nat.le_of_eq g298.symm)), (Nat.le_trans Kp303.1 pq308_0), f322, fq320_0, fq320_1, fq320_2, fq320_3, f323⟩) (by decide) (by decide)

abbrev c27 : ByteArray := jdk_52_method_21_code
theorem d27_0 : decode c27 0 = .ok (.iconst 0, 1) := by decide +kernel
theorem d27_1 : decode c27 1 = .ok (.istore 5, 2) := by decide +kernel
theorem d27_3 : decode c27 3 = .ok (.iload 5, 2) := by decide +kernel
theorem d27_5 : decode c27 5 = .ok (.iload 4, 2) := by decide +kernel
theorem d27_7 : decode c27 7 = .ok (.if_icmp .ge 37, 3) := by decide +kernel
theorem d27_10 : decode c27 10 = .ok (.aload_n 0, 1) := by decide +kernel
theorem d27_11 : decode c27 11 = .ok (.iload_n 1, 1) := by decide +kernel
theorem d27_12 : decode c27 12 = .ok (.caload, 1) := by decide +kernel
theorem d27_13 : decode c27 13 = .ok (.istore 6, 2) := by decide +kernel
theorem d27_15 : decode c27 15 = .ok (.iload 6, 2) := by decide +kernel
theorem d27_17 : decode c27 17 = .ok (.sipush 255, 3) := by decide +kernel
theorem d27_20 : decode c27 20 = .ok (.if_icmp .le 6, 3) := by decide +kernel
theorem d27_26 : decode c27 26 = .ok (.aload_n 2, 1) := by decide +kernel
theorem d27_27 : decode c27 27 = .ok (.iload_n 3, 1) := by decide +kernel
theorem d27_28 : decode c27 28 = .ok (.iload 6, 2) := by decide +kernel
theorem d27_30 : decode c27 30 = .ok (.i2b, 1) := by decide +kernel
theorem d27_31 : decode c27 31 = .ok (.bastore, 1) := by decide +kernel
theorem d27_32 : decode c27 32 = .ok (.iinc 1 1, 3) := by decide +kernel
theorem d27_35 : decode c27 35 = .ok (.iinc 3 1, 3) := by decide +kernel
theorem d27_38 : decode c27 38 = .ok (.iinc 5 1, 3) := by decide +kernel
theorem d27_41 : decode c27 41 = .ok (.goto (-38), 3) := by decide +kernel
theorem d27_44 : decode c27 44 = .ok (.iload 4, 2) := by decide +kernel
theorem d27_46 : decode c27 46 = .ok (.ireturn, 1) := by decide +kernel
theorem ef_rm_cmp5_1 (m : MethodId) (ca : Addr) (kc : ClassId) (bd : Addr) (kd : ClassId) (cc0 : Int32)  : entryFrame m #[(.ref ca), (.int (0 : Int32)), (.ref bd), (.int (0 : Int32)), (.int (1 : Int32))] 7 = mkF m 0 #[vR ca, vI 0, vR bd, vI 0, vI 1, U, U] [] := by  first | (simp [entryFrame, mkF, argsToLocals, Value.category, maxLocals]; done) | rfl
def Q_rm_cmp5_1 (Z : State) (ca : Addr) (kc : ClassId) (bd : Addr) (kd : ClassId) (cc0 : Int32) (h0 : Heap) (n0 : Nat) (v : Option Value) (h : Heap) (L : List Loc) : Prop := (v = some (.int (1 : Int32))) ∧ (Fr n0 L) ∧ (Keep h0 h [bd]) ∧ (Arv Z h bd kd .byte (1 : Int32) [(.int (own_by cc0))] (.int (0 : Int32)))
set_option maxRecDepth 65536 in
set_option maxHeartbeats 40000000 in
theorem rm_cmp5_1 (l : Launch) (Z : State) (a0 : Array Value) (hw : ∀ d ∈ tables_1, d.before a0 Z = true) (ws : List Jvm.Cond) (ca : Addr) (kc : ClassId) (bd : Addr) (kd : ClassId) (cc0 : Int32) (h0 : Heap) (n0 : Nat) (Z0 : n0 ≤ h0.size) (f0 : Arv Z h0 ca kc .char (1 : Int32) [(.int cc0)] (.int (0 : Int32))) (f1 : Arv Z h0 bd kd .byte (1 : Int32) [(.int (0 : Int32))] (.int (0 : Int32))) (gd : n0 ≤ bd) (ncd : ca ≠ bd) (hg0 : ¬ (255 : Int32) < cc0) :
    MetN l Z y_29 c27 7 (some .int) ws (Rm 0 0 0 0) #[(.ref ca), (.int (0 : Int32)), (.ref bd), (.int (0 : Int32)), (.int (1 : Int32))] h0 (Q_rm_cmp5_1 Z ca kc bd kd cc0 h0 n0) := by
 refine MetFree.of_bodySF (plainFor_of_name pn_java_lang_StringUTF16) hisR ?_
 intro p e s m args below meth c s₁ Bd hml0 hP hK
 obtain ⟨rfl, hZ, hh⟩ := hP
 have hx := Bd.exec
 have hby := Bd.bytes
 have hml : c.maxLocals = 7 := hml0
 have hown : s.vm.findClass "java/lang/StringUTF16" = some m.cls := findClass_of_methodNamed Bd.named
 have X0 : Stand p l e (Rm 0 0 0 0) s m #[(.ref ca), (.int (0 : Int32)), (.ref bd), (.int (0 : Int32)), (.int (1 : Int32))] below meth c s₁ [] 0 0 := Stand.of_body Bd
 have e0 : s₁.heap = h0 := by rw [← hh, Bd.state]; rfl
 have N0 := Fr.nil n0
 have K00 : Keep h0 h0 [bd] := Keep.refl _ _
 show Rch p e below s₁ (entryFrame m #[(.ref ca), (.int (0 : Int32)), (.ref bd), (.int (0 : Int32)), (.int (1 : Int32))] 7) (FinP s (Q_rm_cmp5_1 Z ca kc bd kd cc0 h0 n0) 0 0)
 refine Rch.cast (ef_rm_cmp5_1 m ca kc bd kd cc0) ?_
 show Rch p e below s₁ (mkF m 0 #[vR ca, vI 0, vR bd, vI 0, vI 1, U, U] []) _
 refine w_iconst (pc' := 1) (v := 0) X0 hx hby d27_0 rfl rfl ?_
 refine w_istore (pc' := 3) (l' := #[vR ca, vI 0, vR bd, vI 0, vI 1, vI 0, U]) X0 hx hby d27_1 rfl rfl ?_
 refine w_iload (pc' := 5) X0 hx hby d27_3 rfl rfl ?_
 refine w_iload (pc' := 7) X0 hx hby d27_5 rfl rfl ?_
 refine w_icmpNo (pc' := 10) X0 hx hby d27_7 (XT.ii_ge_f (by decide)) rfl ?_
 refine w_aloadN (pc' := 11) X0 hx hby d27_10 rfl rfl rfl ?_
 refine w_iloadN (pc' := 12) X0 hx hby d27_11 rfl rfl ?_
 refine Rch.st (fun _ k => own_ldC X0 hx hZ e0 f0 (j := (0 : Int32)) ⟨by decide, by decide⟩ (by rfl) rfl rfl (hb hby d27_12) k) ?_
 show Rch p e below s₁ (mkF m 13 #[vR ca, vI 0, vR bd, vI 0, vI 1, vI 0, U] [(.int cc0)]) _
 refine w_istore (pc' := 15) (l' := #[vR ca, vI 0, vR bd, vI 0, vI 1, vI 0, vI cc0]) X0 hx hby d27_13 rfl rfl ?_
 refine w_iload (pc' := 17) X0 hx hby d27_15 rfl rfl ?_
 refine w_sipush (pc' := 20) (v := 255) X0 hx hby d27_17 rfl rfl ?_
 refine w_icmpYes (pc' := 26) X0 hx hby d27_20 (XT.ii_le_t (hg0)) (by decide) ?_
 refine w_aloadN (pc' := 27) X0 hx hby d27_26 rfl rfl rfl ?_
 refine w_iloadN (pc' := 28) X0 hx hby d27_27 rfl rfl ?_
 refine w_iload (pc' := 30) X0 hx hby d27_28 rfl rfl ?_
 refine w_i2b (pc' := 31) X0 hx hby d27_30 rfl ?_
 obtain ⟨T327, h327, X327, e327, W327, V327, st327⟩ := own_stB X0 hx hZ e0 f1 (j := (0 : Int32)) ⟨by decide, by decide⟩ 0 (by decide) (by decide : 0 < 1) (g := (mkF m 31 #[vR ca, vI 0, vR bd, vI 0, vI 1, vI 0, vI cc0] [(.int (cc0).toInt8.toInt32), (.int 0), (.ref bd)])) rfl rfl (hb hby d27_31)
 have N328 := Fr.snoc X327 N0 gd
 have Kp331 : Keep h0 h327 [bd] := K00.wr W327 (Or.inl (List.mem_of_getElem? (i := 0) rfl))
 have f332 : Arv Z h327 bd kd .byte (1 : Int32) [(.int ((cc0).toInt8.toInt32).toInt8.toInt32)] (.int (0 : Int32)) := V327
 refine Rch.st (fun _ k => st327 _ k) ?_
 show Rch p e below T327 (mkF m 32 #[vR ca, vI 0, vR bd, vI 0, vI 1, vI 0, vI cc0] []) _
 refine w_iinc (pc' := 35) (w := (1 : Int32)) (l' := #[vR ca, vI 1, vR bd, vI 0, vI 1, vI 0, vI cc0]) X327 hx hby d27_32 rfl (by decide) rfl rfl ?_
 refine w_iinc (pc' := 38) (w := (1 : Int32)) (l' := #[vR ca, vI 1, vR bd, vI 1, vI 1, vI 0, vI cc0]) X327 hx hby d27_35 rfl (by decide) rfl rfl ?_
 refine w_iinc (pc' := 41) (w := (1 : Int32)) (l' := #[vR ca, vI 1, vR bd, vI 1, vI 1, vI 1, vI cc0]) X327 hx hby d27_38 rfl (by decide) rfl rfl ?_
 refine w_goto (pc' := 3) X327 hx hby d27_41 (by decide) ?_
 refine w_iload (pc' := 5) X327 hx hby d27_3 rfl rfl ?_
 refine w_iload (pc' := 7) X327 hx hby d27_5 rfl rfl ?_
 refine w_icmpYes (pc' := 44) X327 hx hby d27_7 (XT.ii_ge_t (by decide)) (by decide) ?_
 refine w_iload (pc' := 46) X327 hx hby d27_44 rfl rfl ?_
 exact Rch.retV X327 hx Bd.returns rfl (Or.inl ⟨rfl, by simp, _, rfl⟩) (hb hby d27_46) (by rw [e327]; exact ⟨rfl, N328, Kp331, f332⟩) (by decide) (by decide)

abbrev c28 : ByteArray := jdk_52_method_16_code
theorem d28_0 : decode c28 0 = .ok (.iload_n 2, 1) := by decide +kernel
theorem d28_1 : decode c28 1 = .ok (.newarray .byte, 2) := by decide +kernel
theorem d28_3 : decode c28 3 = .ok (.astore_n 3, 1) := by decide +kernel
theorem d28_4 : decode c28 4 = .ok (.aload_n 0, 1) := by decide +kernel
theorem d28_5 : decode c28 5 = .ok (.iload_n 1, 1) := by decide +kernel
theorem d28_6 : decode c28 6 = .ok (.aload_n 3, 1) := by decide +kernel
theorem d28_7 : decode c28 7 = .ok (.iconst 0, 1) := by decide +kernel
theorem d28_8 : decode c28 8 = .ok (.iload_n 2, 1) := by decide +kernel
theorem d28_9 : decode c28 9 = .ok (.invokestatic 115, 3) := by decide +kernel
theorem d28_12 : decode c28 12 = .ok (.istore 4, 2) := by decide +kernel
theorem d28_14 : decode c28 14 = .ok (.iload 4, 2) := by decide +kernel
theorem d28_16 : decode c28 16 = .ok (.iload_n 2, 1) := by decide +kernel
theorem d28_17 : decode c28 17 = .ok (.if_icmp .eq 40, 3) := by decide +kernel
theorem d28_57 : decode c28 57 = .ok (.aload_n 3, 1) := by decide +kernel
theorem d28_58 : decode c28 58 = .ok (.areturn, 1) := by decide +kernel
theorem ef_rm_cmp3_1 (m : MethodId) (ca : Addr) (kc : ClassId) (cc0 : Int32)  : entryFrame m #[(.ref ca), (.int (0 : Int32)), (.int (1 : Int32))] 6 = mkF m 0 #[vR ca, vI 0, vI 1, U, U, U] [] := by  first | (simp [entryFrame, mkF, argsToLocals, Value.category, maxLocals]; done) | rfl
def Q_rm_cmp3_1 (Z : State) (ca : Addr) (kc : ClassId) (cc0 : Int32) (h0 : Heap) (n0 : Nat) (v : Option Value) (h : Heap) (L : List Loc) : Prop := ∃ (t : Addr) (kt : ClassId), (v = some (.ref t)) ∧ (Fr n0 L) ∧ (Keep h0 h []) ∧ (h0.size ≤ t) ∧ (Arv Z h t kt .byte (1 : Int32) [(.int (own_by cc0))] (.int (0 : Int32)))
theorem pd___CI_BII_I : parseMethodDescriptor "([CI[BII)I" = some ⟨[(.array .char), .int, (.array .byte), .int, .int], (some .int)⟩ := by decide +kernel
set_option maxRecDepth 65536 in
set_option maxHeartbeats 40000000 in
theorem rm_cmp3_1 (l : Launch) (Z : State) (a0 : Array Value) (hw : ∀ d ∈ tables_1, d.before a0 Z = true) (ws : List Jvm.Cond) (ca : Addr) (kc : ClassId) (cc0 : Int32) (h0 : Heap) (n0 : Nat) (Z0 : n0 ≤ h0.size) (f0 : Arv Z h0 ca kc .char (1 : Int32) [(.int cc0)] (.int (0 : Int32))) (hg0 : ¬ (255 : Int32) < cc0) :
    MetN l Z y_30 c28 6 (some (.array .byte)) ws (Rm 1 1 1 18) #[(.ref ca), (.int (0 : Int32)), (.int (1 : Int32))] h0 (Q_rm_cmp3_1 Z ca kc cc0 h0 n0) := by
 refine MetFree.of_bodySF (plainFor_of_name pn_java_lang_StringUTF16) hisR ?_
 intro p e s m args below meth c s₁ Bd hml0 hP hK
 obtain ⟨rfl, hZ, hh⟩ := hP
 have hx := Bd.exec
 have hby := Bd.bytes
 have hml : c.maxLocals = 6 := hml0
 have hown : s.vm.findClass "java/lang/StringUTF16" = some m.cls := findClass_of_methodNamed Bd.named
 have X0 : Stand p l e (Rm 1 1 1 18) s m #[(.ref ca), (.int (0 : Int32)), (.int (1 : Int32))] below meth c s₁ [] 0 0 := Stand.of_body Bd
 have e0 : s₁.heap = h0 := by rw [← hh, Bd.state]; rfl
 have N0 := Fr.nil n0
 have K00 : Keep h0 h0 [] := Keep.refl _ _
 show Rch p e below s₁ (entryFrame m #[(.ref ca), (.int (0 : Int32)), (.int (1 : Int32))] 6) (FinP s (Q_rm_cmp3_1 Z ca kc cc0 h0 n0) 1 1)
 refine Rch.cast (ef_rm_cmp3_1 m ca kc cc0) ?_
 show Rch p e below s₁ (mkF m 0 #[vR ca, vI 0, vI 1, U, U, U] []) _
 refine w_iloadN (pc' := 1) X0 hx hby d28_0 rfl rfl ?_
 obtain ⟨T333, h333, kc333, X333, e333, E333, A333, st333⟩ := newP X0 hx hZ (wi hw 18 rfl) e0 (g := (mkF m 1 #[vR ca, vI 0, vI 1, U, U, U] [(.int 1)])) rfl (hb hby d28_1) rfl (by decide : ¬ ((1 : Int32) < (0 : Int32))) (cap := 1) (by decide : (1 : Int32).toNatClampNeg ≤ 1) (by decide) (by decide) (by decide)
 obtain ⟨a333, g333⟩ : ∃ z, z = h0.size := ⟨_, rfl⟩
 rw [← g333] at A333 st333
 have ne334 : ca ≠ a333 := by rw [g333]; exact Nat.ne_of_lt f0.lt
 have ge335 : n0 ≤ a333 := Nat.le_trans Z0 (Nat.le_of_eq g333.symm)
 have f337 := f0.ext E333
 have Z338 := Nat.le_trans Z0 E333.1
 have Kp339 : Keep h0 h333 [] := K00.ext E333
 have f340 : Arv Z h333 a333 kc333 .byte (1 : Int32) [(.int (0 : Int32))] (.int (0 : Int32)) := (Arv.new A333 (by decide : ¬ ((1 : Int32) < (0 : Int32)))).pad (pad_rep [] (.int (0 : Int32)) 1)
 refine Rch.st (fun _ k => st333 _ k) ?_
 show Rch p e below T333 (mkF m 3 #[vR ca, vI 0, vI 1, U, U, U] [(.ref a333)]) _
 refine w_astoreN (pc' := 4) (l' := #[vR ca, vI 0, vI 1, vR a333, U, U]) X333 hx hby d28_3 rfl rfl rfl ?_
 refine w_aloadN (pc' := 5) X333 hx hby d28_4 rfl rfl rfl ?_
 refine w_iloadN (pc' := 6) X333 hx hby d28_5 rfl rfl ?_
 refine w_aloadN (pc' := 7) X333 hx hby d28_6 rfl rfl rfl ?_
 refine w_iconst (pc' := 8) (v := 0) X333 hx hby d28_7 rfl rfl ?_
 refine w_iloadN (pc' := 9) X333 hx hby d28_8 rfl rfl ?_
 obtain ⟨_, _, ⟨T341, L341, k341, n341⟩, -, X341, ⟨Lc341, hQ341, l341, y341, z341⟩, st341⟩ := Jvm.LawKit.callS X333 hx (y := y_29) hown (mvT hZ (wi hw 354 rfl)) (mvT hZ (wi hw 355 rfl)) (mvT hZ (wi hw 352 rfl)) (mvT hZ (wi hw 356 rfl)) (by decide) (backOf (W := 0) (rm_cmp5_1 l Z a0 hw [] ca kc a333 kc333 cc0 h333 n0 Z338 f337 f340 (ge335) (ne334) (hg0)) hZ (wi hw 356 rfl) (wi hw 352 rfl) (by decide) (by decide)) (g := (mkF m 9 #[vR ca, vI 0, vI 1, vR a333, U, U] [(.int 1), (.int 0), (.ref a333), (.int 0), (.ref ca)])) rfl (by rw [hml]; rfl) (argsL := [(.ref ca), (.int 0), (.ref a333), (.int 0), (.int 1)]) (rest := []) (lenOf pd___CI_BII_I rfl) rfl (by show 2 * 0 + _ ≤ _; exact Nat.le_of_eq rfl) (hb hby d28_9) (fun _ _ => ⟨rfl, e333, (by decide : 1 + 0 ≤ _), (by decide : 1 + 0 ≤ _)⟩)
 dsimp only [Pt.U, Pt.locs, Pt.cells, Pt.slots] at X341 l341 y341 z341 st341 hQ341
 subst l341 y341 z341
 obtain ⟨rfl, NQ341, K341, fq341_0⟩ := hQ341
 have N342 := Fr.app N0 NQ341
 have Kp344 : Keep h0 T341.heap [] := Kp339.trans K341 (allS (Or.inr (Nat.le_trans K00.1 (Nat.le_of_eq g333.symm))) all0)
 refine Rch.st (fun _ k => st341 _ k) ?_
 show Rch p e below T341 (mkF m 12 #[vR ca, vI 0, vI 1, vR a333, U, U] [(.int 1)]) _
 refine w_istore (pc' := 14) (l' := #[vR ca, vI 0, vI 1, vR a333, vI 1, U]) X341 hx hby d28_12 rfl rfl ?_
 refine w_iload (pc' := 16) X341 hx hby d28_14 rfl rfl ?_
 refine w_iloadN (pc' := 17) X341 hx hby d28_16 rfl rfl ?_
 refine w_icmpYes (pc' := 57) X341 hx hby d28_17 (XT.ii_eq_t (rfl)) (by decide) ?_
 refine w_aloadN (pc' := 58) X341 hx hby d28_57 rfl rfl rfl ?_
 exact Rch.retV X341 hx Bd.returns rfl (Or.inr (Or.inr (Or.inr (Or.inr ⟨rfl, rfl, rfl⟩)))) (hb hby d28_58) (by rw [(rfl : T341.heap = T341.heap)]; exact ⟨a333, kc333, rfl, N342, Kp344, (Nat.le_trans K00.1 (Nat.le_of_eq g333.symm)), fq341_0⟩) (by decide) (by decide)

abbrev c29 : ByteArray := jdk_42_method_149_code
theorem d29_0 : decode c29 0 = .ok (.aload_n 0, 1) := by decide +kernel
theorem d29_1 : decode c29 1 = .ok (.invokespecial 1, 3) := by decide +kernel
theorem d29_4 : decode c29 4 = .ok (.iload_n 3, 1) := by decide +kernel
theorem d29_5 : decode c29 5 = .ok (.ifCond .ne 22, 3) := by decide +kernel
theorem d29_27 : decode c29 27 = .ok (.getstatic 38, 3) := by decide +kernel
theorem d29_30 : decode c29 30 = .ok (.ifCond .eq 28, 3) := by decide +kernel
theorem d29_33 : decode c29 33 = .ok (.aload_n 1, 1) := by decide +kernel
theorem d29_34 : decode c29 34 = .ok (.iload_n 2, 1) := by decide +kernel
theorem d29_35 : decode c29 35 = .ok (.iload_n 3, 1) := by decide +kernel
theorem d29_36 : decode c29 36 = .ok (.invokestatic 177, 3) := by decide +kernel
theorem d29_39 : decode c29 39 = .ok (.astore 5, 2) := by decide +kernel
theorem d29_41 : decode c29 41 = .ok (.aload_n 0, 1) := by decide +kernel
theorem d29_42 : decode c29 42 = .ok (.aload 5, 2) := by decide +kernel
theorem d29_44 : decode c29 44 = .ok (.iload_n 3, 1) := by decide +kernel
theorem d29_45 : decode c29 45 = .ok (.invokestatic 47, 3) := by decide +kernel
theorem d29_48 : decode c29 48 = .ok (.putfield 15, 3) := by decide +kernel
theorem d29_51 : decode c29 51 = .ok (.aload_n 0, 1) := by decide +kernel
theorem d29_52 : decode c29 52 = .ok (.aload 5, 2) := by decide +kernel
theorem d29_54 : decode c29 54 = .ok (.putfield 9, 3) := by decide +kernel
theorem d29_57 : decode c29 57 = .ok (.return_, 1) := by decide +kernel
theorem ef_rm_init4_1 (m : MethodId) (G1 : Int32) (a5 : Addr) (ca : Addr) (kc : ClassId) (cc0 : Int32)  : entryFrame m #[(.ref a5), (.ref ca), (.int (0 : Int32)), (.int (1 : Int32)), .null] 6 = mkF m 0 #[vR a5, vR ca, vI 0, vI 1, vN, U] [] := by  first | (simp [entryFrame, mkF, argsToLocals, Value.category, maxLocals]; done) | rfl
def Q_rm_init4_1 (Z : State) (G1 : Int32) (a5 : Addr) (ca : Addr) (kc : ClassId) (cc0 : Int32) (h0 : Heap) (n0 : Nat) (v : Option Value) (h : Heap) (L : List Loc) : Prop := ∃ (t : Addr) (kt : ClassId), (v = none) ∧ (Fr n0 L) ∧ (Keep h0 h [a5]) ∧ (h0.size ≤ t) ∧ (Fld Z h a5 "java/lang/String" "coder" "B" (.int (0 : Int32))) ∧ (Fld Z h a5 "java/lang/String" "value" "[B" (.ref t)) ∧ (Arv Z h t kt .byte (1 : Int32) [(.int (own_by cc0))] (.int (0 : Int32)))
theorem pd___CII__B : parseMethodDescriptor "([CII)[B" = some ⟨[(.array .char), .int, .int], (some (.array .byte))⟩ := by decide +kernel
theorem pd___BI_B : parseMethodDescriptor "([BI)B" = some ⟨[(.array .byte), .int], (some .byte)⟩ := by decide +kernel
set_option maxRecDepth 65536 in
set_option maxHeartbeats 40000000 in
theorem rm_init4_1 (l : Launch) (Z : State) (a0 : Array Value) (hw : ∀ d ∈ tables_1, d.before a0 Z = true) (ws : List Jvm.Cond) (G1 : Int32) (a5 : Addr) (ca : Addr) (kc : ClassId) (cc0 : Int32) (h0 : Heap) (n0 : Nat) (Z0 : n0 ≤ h0.size) (O2 : Sta Z Z.heap "java/lang/String" "COMPACT_STRINGS" "Z" (.int G1)) (P5 : ¬ G1 = 0) (f2 : Exa Z h0 a5 "java/lang/String") (f3 : Fld Z h0 a5 "java/lang/String" "coder" "B" (.int (0 : Int32))) (f4 : Fld Z h0 a5 "java/lang/String" "value" "[B" .null) (f5 : Arv Z h0 ca kc .char (1 : Int32) [(.int cc0)] (.int (0 : Int32))) (ga : n0 ≤ a5) (nca : a5 ≠ ca) (hg0 : ¬ (255 : Int32) < cc0) (Old0 : OldL Z n0 h0) :
    MetN l Z y_31 c29 6 none ws (Rm 2 1 1 35) #[(.ref a5), (.ref ca), (.int (0 : Int32)), (.int (1 : Int32)), .null] h0 (Q_rm_init4_1 Z G1 a5 ca kc cc0 h0 n0) := by
 refine MetFree.of_bodySF (plainFor_of_name pn_java_lang_String) hisR ?_
 intro p e s m args below meth c s₁ Bd hml0 hP hK
 obtain ⟨rfl, hZ, hh⟩ := hP
 have hx := Bd.exec
 have hby := Bd.bytes
 have hml : c.maxLocals = 6 := hml0
 have hown : s.vm.findClass "java/lang/String" = some m.cls := findClass_of_methodNamed Bd.named
 have hnm := (name_of_methodNamed Bd.named Bd.method).1
 have X0 : Stand p l e (Rm 2 1 1 35) s m #[(.ref a5), (.ref ca), (.int (0 : Int32)), (.int (1 : Int32)), .null] below meth c s₁ [] 0 0 := Stand.of_body Bd
 have e0 : s₁.heap = h0 := by rw [← hh, Bd.state]; rfl
 have N0 := Fr.nil n0
 have K00 : Keep h0 h0 [a5] := Keep.refl _ _
 show Rch p e below s₁ (entryFrame m #[(.ref a5), (.ref ca), (.int (0 : Int32)), (.int (1 : Int32)), .null] 6) (FinP s (Q_rm_init4_1 Z G1 a5 ca kc cc0 h0 n0) 1 1)
 refine Rch.cast (ef_rm_init4_1 m G1 a5 ca kc cc0) ?_
 show Rch p e below s₁ (mkF m 0 #[vR a5, vR ca, vI 0, vI 1, vN, U] []) _
 refine w_aloadN (pc' := 1) X0 hx hby d29_0 rfl rfl rfl ?_
 obtain ⟨T346, X346, e346, st346⟩ := initO X0 hx hZ hown (wi hw 23 rfl) (wi hw 24 rfl) (wi hw 25 rfl) e0 (g := (mkF m 1 #[vR a5, vR ca, vI 0, vI 1, vN, U] [(.ref a5)])) rfl (by rw [hml]; rfl) rfl (hb hby d29_1) (by decide) (W := 0) (by show 2 * 0 + _ ≤ _; exact Nat.le_of_eq rfl) (by decide)
 refine Rch.st (fun _ k => st346 _ k) ?_
 show Rch p e below T346 (mkF m 4 #[vR a5, vR ca, vI 0, vI 1, vN, U] []) _
 refine w_iloadN (pc' := 5) X346 hx hby d29_4 rfl rfl ?_
 refine w_ifYes (pc' := 27) X346 hx hby d29_5 (XT.i0_ne_t (by decide)) (by decide) ?_
 obtain ⟨T347, X347, e347, st347⟩ := getS X346 hx hZ hown (host := "") (wi hw 8 rfl) Via.refl e346 (O2.ext Old0.2) (g := (mkF m 27 #[vR a5, vR ca, vI 0, vI 1, vN, U] [])) rfl (hb hby d29_27)
 refine Rch.st (fun _ k => st347 _ k) ?_
 show Rch p e below T347 (mkF m 30 #[vR a5, vR ca, vI 0, vI 1, vN, U] [(.int G1)]) _
 refine w_ifNo (pc' := 33) X347 hx hby d29_30 (XT.i0_eq_f (P5)) rfl ?_
 refine w_aloadN (pc' := 34) X347 hx hby d29_33 rfl rfl rfl ?_
 refine w_iloadN (pc' := 35) X347 hx hby d29_34 rfl rfl ?_
 refine w_iloadN (pc' := 36) X347 hx hby d29_35 rfl rfl ?_
 obtain ⟨_, _, ⟨T348, L348, k348, n348⟩, -, X348, ⟨Lc348, hQ348, l348, y348, z348⟩, st348⟩ := Jvm.LawKit.callS X347 hx (y := y_30) hown (mvT hZ (wi hw 350 rfl)) (mvT hZ (wi hw 351 rfl)) (mvT hZ (wi hw 352 rfl)) (mvT hZ (wi hw 353 rfl)) (by decide) (backOf (W := 0) (rm_cmp3_1 l Z a0 hw [] ca kc cc0 h0 n0 Z0 f5 (hg0)) hZ (wi hw 353 rfl) (wi hw 352 rfl) (by decide) (by decide)) (g := (mkF m 36 #[vR a5, vR ca, vI 0, vI 1, vN, U] [(.int 1), (.int 0), (.ref ca)])) rfl (by rw [hml]; rfl) (argsL := [(.ref ca), (.int 0), (.int 1)]) (rest := []) (lenOf pd___CII__B rfl) rfl (by show 2 * 0 + _ ≤ _; exact Nat.le_of_eq rfl) (hb hby d29_36) (fun _ _ => ⟨rfl, e347, (by decide : 0 + 1 ≤ _), (by decide : 0 + 1 ≤ _)⟩)
 dsimp only [Pt.U, Pt.locs, Pt.cells, Pt.slots] at X348 l348 y348 z348 st348 hQ348
 subst l348 y348 z348
 obtain ⟨t_348, kt_348, rfl, NQ348, K348, pq348_0, fq348_0⟩ := hQ348
 have N349 := Fr.app N0 NQ348
 have ne350 := nlt f2.lt pq348_0
 have f353 := f2.keep K348
 have f354 := f3.keep K348 nin0
 have f355 := f4.keep K348 nin0
 have Kp358 : Keep h0 T348.heap [a5] := K00.trans K348 all0
 have Z359 := Nat.le_trans Z0 K348.1
 refine Rch.st (fun _ k => st348 _ k) ?_
 show Rch p e below T348 (mkF m 39 #[vR a5, vR ca, vI 0, vI 1, vN, U] [(.ref t_348)]) _
 refine w_astore (pc' := 41) (l' := #[vR a5, vR ca, vI 0, vI 1, vN, vR t_348]) X348 hx hby d29_39 rfl rfl rfl ?_
 refine w_aloadN (pc' := 42) X348 hx hby d29_41 rfl rfl rfl ?_
 refine w_aload (pc' := 44) X348 hx hby d29_42 rfl rfl rfl ?_
 refine w_iloadN (pc' := 45) X348 hx hby d29_44 rfl rfl ?_
 obtain ⟨_, _, ⟨T360, L360, k360, n360⟩, -, X360, ⟨Lc360, hQ360, l360, y360, z360⟩, st360⟩ := Jvm.LawKit.callS X348 hx (y := y_4) hown (mvT hZ (wi hw 357 rfl)) (mvT hZ (wi hw 358 rfl)) (mvT hZ (wi hw 352 rfl)) (mvT hZ (wi hw 359 rfl)) (by decide) (backOf (W := 1) (rm_cfl l Z a0 hw [] t_348 kt_348 1 1 ([(.int (own_by cc0))]) (.int 0) T348.heap n0 Z359 fq348_0) hZ (wi hw 359 rfl) (wi hw 352 rfl) (by decide) (by decide)) (g := (mkF m 45 #[vR a5, vR ca, vI 0, vI 1, vN, vR t_348] [(.int 1), (.ref t_348), (.ref a5)])) rfl (by rw [hml]; rfl) (argsL := [(.ref t_348), (.int 1)]) (rest := [(.ref a5)]) (lenOf pd___BI_B rfl) rfl (by show 2 * 0 + _ ≤ _; exact Nat.le_of_eq rfl) (hb hby d29_45) (fun _ _ => ⟨rfl, (rfl : T348.heap = T348.heap), (by decide : 1 + 0 ≤ _), (by decide : 1 + 0 ≤ _)⟩)
 dsimp only [Pt.U, Pt.locs, Pt.cells, Pt.slots] at X360 l360 y360 z360 st360 hQ360
 subst l360 y360 z360
 obtain ⟨rfl, NQ360, K360⟩ := hQ360
 have N361 := Fr.app N349 NQ360
 refine Rch.st (fun _ k => st360 _ k) ?_
 show Rch p e below T360 (mkF m 48 #[vR a5, vR ca, vI 0, vI 1, vN, vR t_348] [(.int ((XT.ushr ((1 : Int32) - (1 : Int32)) (31 : Int32))).toInt8.toInt32), (.ref a5)]) _
 have r362 : ((XT.ushr ((1 : Int32) - (1 : Int32)) (31 : Int32))).toInt8.toInt32 = (0 : Int32) := by decide
 rw [r362]
 show Rch p e below T360 (mkF m 48 #[vR a5, vR ca, vI 0, vI 1, vN, vR t_348] [(.int 0), (.ref a5)]) _
 obtain ⟨T363, h363, X363, e363, W363, st363⟩ := putF X360 hx hZ hown (host := "") (Or.inl (wi hw 28 rfl)) Via.refl K360 f354 f353 (Or.inr ⟨(wi hw 29 rfl), rfl, hnm⟩) (wi hw 14 rfl) (ty := .byte) (by decide) rfl rfl (g := (mkF m 48 #[vR a5, vR ca, vI 0, vI 1, vN, vR t_348] [(.int 0), (.ref a5)])) rfl rfl (hb hby d29_48)
 have N364 := Fr.snoc X363 N361 ga
 have f365 := f353.wr W363
 have f366 := f354.same W363
 have f367 := f355.other W363 (Or.inr (slot_ne (t := (.array .byte)) (t' := .byte) (Or.inr (wi hw 27 rfl)) (Or.inr (wi hw 29 rfl)) (by decide) (by decide) (by decide)))
 have f369 := fq348_0.other W363 (Ne.symm ne350)
 have Kp372 : Keep h0 h363 [a5] := Kp358.wr W363 (Or.inl (List.mem_of_getElem? (i := 0) rfl))
 refine Rch.st (fun _ k => st363 _ k) ?_
 show Rch p e below T363 (mkF m 51 #[vR a5, vR ca, vI 0, vI 1, vN, vR t_348] []) _
 refine w_aloadN (pc' := 52) X363 hx hby d29_51 rfl rfl rfl ?_
 refine w_aload (pc' := 54) X363 hx hby d29_52 rfl rfl rfl ?_
 obtain ⟨T373, h373, X373, e373, W373, st373⟩ := putF X363 hx hZ hown (host := "") (Or.inl (wi hw 26 rfl)) Via.refl e363 f367 f365 (Or.inr ⟨(wi hw 27 rfl), rfl, hnm⟩) (wi hw 14 rfl) (ty := (.array .byte)) (by decide) rfl rfl (g := (mkF m 54 #[vR a5, vR ca, vI 0, vI 1, vN, vR t_348] [(.ref t_348), (.ref a5)])) rfl rfl (hb hby d29_54)
 have N374 := Fr.snoc X373 N364 ga
 have f376 := f366.other W373 (Or.inr (slot_ne (t := .byte) (t' := (.array .byte)) (Or.inr (wi hw 29 rfl)) (Or.inr (wi hw 27 rfl)) (by decide) (by decide) (by decide)))
 have f377 := f367.same W373
 have f379 := f369.other W373 (Ne.symm ne350)
 have Kp382 : Keep h0 h373 [a5] := Kp372.wr W373 (Or.inl (List.mem_of_getElem? (i := 0) rfl))
 refine Rch.st (fun _ k => st373 _ k) ?_
 show Rch p e below T373 (mkF m 57 #[vR a5, vR ca, vI 0, vI 1, vN, vR t_348] []) _
 exact Rch.ret0 X373 hx Bd.returns (hb hby d29_57) (by rw [e373]; exact ⟨t_348, kt_348, rfl, N374, Kp382, (Nat.le_trans K00.1 pq348_0), f376, f377, f379⟩) (by decide) (by decide)

abbrev c30 : ByteArray := jdk_42_method_3_code
theorem d30_0 : decode c30 0 = .ok (.aload_n 0, 1) := by decide +kernel
theorem d30_1 : decode c30 1 = .ok (.aload_n 1, 1) := by decide +kernel
theorem d30_2 : decode c30 2 = .ok (.iconst 0, 1) := by decide +kernel
theorem d30_3 : decode c30 3 = .ok (.aload_n 1, 1) := by decide +kernel
theorem d30_4 : decode c30 4 = .ok (.arraylength, 1) := by decide +kernel
theorem d30_5 : decode c30 5 = .ok (.aconst_null, 1) := by decide +kernel
theorem d30_6 : decode c30 6 = .ok (.invokespecial 27, 3) := by decide +kernel
theorem d30_9 : decode c30 9 = .ok (.return_, 1) := by decide +kernel
theorem ef_rm_init1_1 (m : MethodId) (G1 : Int32) (a5 : Addr) (ca : Addr) (kc : ClassId) (cc0 : Int32)  : entryFrame m #[(.ref a5), (.ref ca)] 2 = mkF m 0 #[vR a5, vR ca] [] := by  first | (simp [entryFrame, mkF, argsToLocals, Value.category, maxLocals]; done) | rfl
def Q_rm_init1_1 (Z : State) (G1 : Int32) (a5 : Addr) (ca : Addr) (kc : ClassId) (cc0 : Int32) (h0 : Heap) (n0 : Nat) (v : Option Value) (h : Heap) (L : List Loc) : Prop := ∃ (t : Addr) (kt : ClassId), (v = none) ∧ (Fr n0 L) ∧ (Keep h0 h [a5]) ∧ (h0.size ≤ t) ∧ (Fld Z h a5 "java/lang/String" "coder" "B" (.int (0 : Int32))) ∧ (Fld Z h a5 "java/lang/String" "value" "[B" (.ref t)) ∧ (Arv Z h t kt .byte (1 : Int32) [(.int (own_by cc0))] (.int (0 : Int32)))
theorem pd___CIILjava_lang_Void__V : parseMethodDescriptor "([CIILjava/lang/Void;)V" = some ⟨[(.array .char), .int, .int, (.object "java/lang/Void")], none⟩ := by decide +kernel
set_option maxRecDepth 65536 in
set_option maxHeartbeats 40000000 in
theorem rm_init1_1 (l : Launch) (Z : State) (a0 : Array Value) (hw : ∀ d ∈ tables_1, d.before a0 Z = true) (ws : List Jvm.Cond) (G1 : Int32) (a5 : Addr) (ca : Addr) (kc : ClassId) (cc0 : Int32) (h0 : Heap) (n0 : Nat) (Z0 : n0 ≤ h0.size) (O2 : Sta Z Z.heap "java/lang/String" "COMPACT_STRINGS" "Z" (.int G1)) (P5 : ¬ G1 = 0) (f2 : Exa Z h0 a5 "java/lang/String") (f3 : Fld Z h0 a5 "java/lang/String" "coder" "B" (.int (0 : Int32))) (f4 : Fld Z h0 a5 "java/lang/String" "value" "[B" .null) (f5 : Arv Z h0 ca kc .char (1 : Int32) [(.int cc0)] (.int (0 : Int32))) (ga : n0 ≤ a5) (nca : a5 ≠ ca) (hg0 : ¬ (255 : Int32) < cc0) (Old0 : OldL Z n0 h0) :
    MetN l Z y_32 c30 2 none ws (Rm 3 1 1 52) #[(.ref a5), (.ref ca)] h0 (Q_rm_init1_1 Z G1 a5 ca kc cc0 h0 n0) := by
 refine MetFree.of_bodySF (plainFor_of_name pn_java_lang_String) hisR ?_
 intro p e s m args below meth c s₁ Bd hml0 hP hK
 obtain ⟨rfl, hZ, hh⟩ := hP
 have hx := Bd.exec
 have hby := Bd.bytes
 have hml : c.maxLocals = 2 := hml0
 have hown : s.vm.findClass "java/lang/String" = some m.cls := findClass_of_methodNamed Bd.named
 have X0 : Stand p l e (Rm 3 1 1 52) s m #[(.ref a5), (.ref ca)] below meth c s₁ [] 0 0 := Stand.of_body Bd
 have e0 : s₁.heap = h0 := by rw [← hh, Bd.state]; rfl
 have N0 := Fr.nil n0
 have K00 : Keep h0 h0 [a5] := Keep.refl _ _
 show Rch p e below s₁ (entryFrame m #[(.ref a5), (.ref ca)] 2) (FinP s (Q_rm_init1_1 Z G1 a5 ca kc cc0 h0 n0) 1 1)
 refine Rch.cast (ef_rm_init1_1 m G1 a5 ca kc cc0) ?_
 show Rch p e below s₁ (mkF m 0 #[vR a5, vR ca] []) _
 refine w_aloadN (pc' := 1) X0 hx hby d30_0 rfl rfl rfl ?_
 refine w_aloadN (pc' := 2) X0 hx hby d30_1 rfl rfl rfl ?_
 refine w_iconst (pc' := 3) (v := 0) X0 hx hby d30_2 rfl rfl ?_
 refine w_aloadN (pc' := 4) X0 hx hby d30_3 rfl rfl rfl ?_
 refine Rch.st (fun _ k => own_alen X0 hx hZ e0 f5 rfl rfl (hb hby d30_4) k) ?_
 show Rch p e below s₁ (mkF m 5 #[vR a5, vR ca] [(.int 1), (.int 0), (.ref ca), (.ref a5)]) _
 refine w_aconstNull (pc' := 6) X0 hx hby d30_5 rfl ?_
 obtain ⟨_, _, ⟨T383, L383, k383, n383⟩, -, X383, ⟨Lc383, hQ383, l383, y383, z383⟩, st383⟩ := X0.specialBack hx (y := y_31) rfl hown (mvT hZ (wi hw 347 rfl)) (mvT hZ (wi hw 348 rfl)) (mvT hZ (wi hw 349 rfl)) (by decide) (backOf (W := 0) (rm_init4_1 l Z a0 hw [] G1 a5 ca kc cc0 h0 n0 Z0 (O2) (P5) f2 f3 f4 f5 (ga) (nca) (hg0) Old0) hZ (wi hw 349 rfl) (wi hw 6 rfl) (by decide) (by decide)) (g := (mkF m 6 #[vR a5, vR ca] [.null, (.int 1), (.int 0), (.ref ca), (.ref a5)])) rfl (by rw [hml]; rfl) (Steps.refl _) (a := a5) (argsL := [(.ref ca), (.int 0), (.int 1), .null]) (rest := []) (lenOf pd___CIILjava_lang_Void__V rfl) rfl (by show 2 * 0 + _ ≤ _; exact Nat.le_of_eq rfl) (hb hby d30_6) (fun _ _ => ⟨rfl, e0, (by decide : 0 + 1 ≤ _), (by decide : 0 + 1 ≤ _)⟩)
 dsimp only [Pt.U, Pt.locs, Pt.cells, Pt.slots] at X383 l383 y383 z383 st383 hQ383
 subst l383 y383 z383
 obtain ⟨t_383, kt_383, rfl, NQ383, K383, pq383_0, fq383_0, fq383_1, fq383_2⟩ := hQ383
 have N384 := Fr.app N0 NQ383
 have Kp391 : Keep h0 T383.heap [a5] := K00.trans K383 (allS (Or.inl (List.mem_of_getElem? (i := 0) rfl)) all0)
 refine Rch.st (fun _ k => st383.trans k) ?_
 show Rch p e below T383 (mkF m 9 #[vR a5, vR ca] []) _
 exact Rch.ret0 X383 hx Bd.returns (hb hby d30_9) (by rw [(rfl : T383.heap = T383.heap)]; exact ⟨t_383, kt_383, rfl, N384, Kp391, (Nat.le_trans K00.1 pq383_0), fq383_0, fq383_1, fq383_2⟩) (by decide) (by decide)

abbrev c31 : ByteArray := jdk_71_method_1_code
theorem d31_0 : decode c31 0 = .ok (.aload_n 0, 1) := by decide +kernel
theorem d31_1 : decode c31 1 = .ok (.invokespecial 1, 3) := by decide +kernel
theorem d31_4 : decode c31 4 = .ok (.return_, 1) := by decide +kernel
theorem pn_java_util_AbstractMap : plainName "java/util/AbstractMap" = true := by first | (simp [plainName, overriddenIn]; done) | decide +kernel
theorem ef_rm_AM (m : MethodId) (mp : Addr)  : entryFrame m #[(.ref mp)] 1 = mkF m 0 #[vR mp] [] := by  first | (simp [entryFrame, mkF, argsToLocals, Value.category, maxLocals]; done) | rfl
def Q_rm_AM (Z : State) (mp : Addr) (h0 : Heap) (n0 : Nat) (v : Option Value) (h : Heap) (L : List Loc) : Prop := (v = none) ∧ (Fr n0 L) ∧ (h = h0)
set_option maxRecDepth 65536 in
set_option maxHeartbeats 40000000 in
theorem rm_AM (l : Launch) (Z : State) (a0 : Array Value) (hw : ∀ d ∈ tables_1, d.before a0 Z = true) (ws : List Jvm.Cond) (mp : Addr) (h0 : Heap) (n0 : Nat) (Z0 : n0 ≤ h0.size)  :
    MetN l Z y_33 c31 1 none ws (Rm 1 0 0 12) #[(.ref mp)] h0 (Q_rm_AM Z mp h0 n0) := by
 refine MetFree.of_bodySF (plainFor_of_name pn_java_util_AbstractMap) hisR ?_
 intro p e s m args below meth c s₁ Bd hml0 hP hK
 obtain ⟨rfl, hZ, hh⟩ := hP
 have hx := Bd.exec
 have hby := Bd.bytes
 have hml : c.maxLocals = 1 := hml0
 have hown : s.vm.findClass "java/util/AbstractMap" = some m.cls := findClass_of_methodNamed Bd.named
 have X0 : Stand p l e (Rm 1 0 0 12) s m #[(.ref mp)] below meth c s₁ [] 0 0 := Stand.of_body Bd
 have e0 : s₁.heap = h0 := by rw [← hh, Bd.state]; rfl
 have N0 := Fr.nil n0
 have K00 : Keep h0 h0 [] := Keep.refl _ _
 show Rch p e below s₁ (entryFrame m #[(.ref mp)] 1) (FinP s (Q_rm_AM Z mp h0 n0) 0 0)
 refine Rch.cast (ef_rm_AM m mp) ?_
 show Rch p e below s₁ (mkF m 0 #[vR mp] []) _
 refine w_aloadN (pc' := 1) X0 hx hby d31_0 rfl rfl rfl ?_
 obtain ⟨T393, X393, e393, st393⟩ := initO X0 hx hZ hown (wi hw 55 rfl) (wi hw 24 rfl) (wi hw 25 rfl) e0 (g := (mkF m 1 #[vR mp] [(.ref mp)])) rfl (by rw [hml]; rfl) rfl (hb hby d31_1) (by decide) (W := 0) (by show 2 * 0 + _ ≤ _; exact Nat.le_of_eq rfl) (by decide)
 refine Rch.st (fun _ k => st393 _ k) ?_
 show Rch p e below T393 (mkF m 4 #[vR mp] []) _
 exact Rch.ret0 X393 hx Bd.returns (hb hby d31_4) (by rw [e393]; exact ⟨rfl, N0, rfl⟩) (by decide) (by decide)

abbrev c32 : ByteArray := jdk_69_method_7_code
theorem d32_0 : decode c32 0 = .ok (.aload_n 0, 1) := by decide +kernel
theorem d32_1 : decode c32 1 = .ok (.invokespecial 43, 3) := by decide +kernel
theorem d32_4 : decode c32 4 = .ok (.aload_n 0, 1) := by decide +kernel
theorem d32_5 : decode c32 5 = .ok (.ldc 92, 2) := by decide +kernel
theorem d32_7 : decode c32 7 = .ok (.putfield 81, 3) := by decide +kernel
theorem d32_10 : decode c32 10 = .ok (.return_, 1) := by decide +kernel
theorem pn_java_util_HashMap : plainName "java/util/HashMap" = true := by first | (simp [plainName, overriddenIn]; done) | decide +kernel
theorem ef_rm_HM (m : MethodId) (mp : Addr)  : entryFrame m #[(.ref mp)] 1 = mkF m 0 #[vR mp] [] := by  first | (simp [entryFrame, mkF, argsToLocals, Value.category, maxLocals]; done) | rfl
def Q_rm_HM (Z : State) (mp : Addr) (h0 : Heap) (n0 : Nat) (v : Option Value) (h : Heap) (L : List Loc) : Prop := (v = none) ∧ (Fr n0 L) ∧ (Keep h0 h [mp]) ∧ (Fld Z h mp "java/util/HashMap" "table" "[Ljava/util/HashMap$Node;" .null) ∧ (Fld Z h mp "java/util/HashMap" "size" "I" (.int (0 : Int32))) ∧ (Fld Z h mp "java/util/HashMap" "modCount" "I" (.int (0 : Int32))) ∧ (Fld Z h mp "java/util/HashMap" "threshold" "I" (.int (0 : Int32))) ∧ (Fld Z h mp "java/util/LinkedHashMap" "putMode" "I" (.int (0 : Int32))) ∧ (Fld Z h mp "java/util/LinkedHashMap" "head" "Ljava/util/LinkedHashMap$Entry;" .null) ∧ (Fld Z h mp "java/util/LinkedHashMap" "tail" "Ljava/util/LinkedHashMap$Entry;" .null) ∧ (Fld Z h mp "java/util/LinkedHashMap" "accessOrder" "Z" (.int (0 : Int32)))
theorem pd___V : parseMethodDescriptor "()V" = some ⟨[], none⟩ := by decide +kernel
set_option maxRecDepth 65536 in
set_option maxHeartbeats 40000000 in
theorem rm_HM (l : Launch) (Z : State) (a0 : Array Value) (hw : ∀ d ∈ tables_1, d.before a0 Z = true) (ws : List Jvm.Cond) (mp : Addr) (h0 : Heap) (n0 : Nat) (Z0 : n0 ≤ h0.size) (f0 : Exa Z h0 mp "java/util/LinkedHashMap") (f1 : Fld Z h0 mp "java/util/HashMap" "table" "[Ljava/util/HashMap$Node;" .null) (f2 : Fld Z h0 mp "java/util/HashMap" "size" "I" (.int (0 : Int32))) (f3 : Fld Z h0 mp "java/util/HashMap" "modCount" "I" (.int (0 : Int32))) (f4 : Fld Z h0 mp "java/util/HashMap" "threshold" "I" (.int (0 : Int32))) (f5 : Fld Z h0 mp "java/util/LinkedHashMap" "putMode" "I" (.int (0 : Int32))) (f6 : Fld Z h0 mp "java/util/LinkedHashMap" "head" "Ljava/util/LinkedHashMap$Entry;" .null) (f7 : Fld Z h0 mp "java/util/LinkedHashMap" "tail" "Ljava/util/LinkedHashMap$Entry;" .null) (f8 : Fld Z h0 mp "java/util/HashMap" "loadFactor" "F" (.float 0)) (f9 : Fld Z h0 mp "java/util/LinkedHashMap" "accessOrder" "Z" (.int (0 : Int32))) (gm : n0 ≤ mp) :
    MetN l Z y_34 c32 1 none ws (Rm 2 0 0 24) #[(.ref mp)] h0 (Q_rm_HM Z mp h0 n0) := by
 refine MetFree.of_bodySF (plainFor_of_name pn_java_util_HashMap) hisR ?_
 intro p e s m args below meth c s₁ Bd hml0 hP hK
 obtain ⟨rfl, hZ, hh⟩ := hP
 have hx := Bd.exec
 have hby := Bd.bytes
 have hml : c.maxLocals = 1 := hml0
 have hown : s.vm.findClass "java/util/HashMap" = some m.cls := findClass_of_methodNamed Bd.named
 have hnm := (name_of_methodNamed Bd.named Bd.method).1
 have X0 : Stand p l e (Rm 2 0 0 24) s m #[(.ref mp)] below meth c s₁ [] 0 0 := Stand.of_body Bd
 have e0 : s₁.heap = h0 := by rw [← hh, Bd.state]; rfl
 have N0 := Fr.nil n0
 have K00 : Keep h0 h0 [mp] := Keep.refl _ _
 show Rch p e below s₁ (entryFrame m #[(.ref mp)] 1) (FinP s (Q_rm_HM Z mp h0 n0) 0 0)
 refine Rch.cast (ef_rm_HM m mp) ?_
 show Rch p e below s₁ (mkF m 0 #[vR mp] []) _
 refine w_aloadN (pc' := 1) X0 hx hby d32_0 rfl rfl rfl ?_
 obtain ⟨_, _, ⟨T394, L394, k394, n394⟩, -, X394, ⟨Lc394, hQ394, l394, y394, z394⟩, st394⟩ := X0.specialBack hx (y := y_33) rfl hown (mvT hZ (wi hw 49 rfl)) (mvT hZ (wi hw 50 rfl)) (mvT hZ (wi hw 54 rfl)) (by decide) (backOf (W := 0) (rm_AM l Z a0 hw [] mp h0 n0 Z0 ) hZ (wi hw 54 rfl) (wi hw 53 rfl) (by decide) (by decide)) (g := (mkF m 1 #[vR mp] [(.ref mp)])) rfl (by rw [hml]; rfl) (Steps.refl _) (a := mp) (argsL := []) (rest := []) (lenOf pd___V rfl) rfl (by show 2 * 0 + _ ≤ _; exact Nat.le_of_eq rfl) (hb hby d32_1) (fun _ _ => ⟨rfl, e0, (by decide : 0 + 0 ≤ _), (by decide : 0 + 0 ≤ _)⟩)
 dsimp only [Pt.U, Pt.locs, Pt.cells, Pt.slots] at X394 l394 y394 z394 st394 hQ394
 subst l394 y394 z394
 obtain ⟨rfl, NQ394, K394⟩ := hQ394
 have N395 := Fr.app N0 NQ394
 refine Rch.st (fun _ k => st394.trans k) ?_
 show Rch p e below T394 (mkF m 4 #[vR mp] []) _
 refine w_aloadN (pc' := 5) X394 hx hby d32_4 rfl rfl rfl ?_
 refine Rch.st (fun _ k => own_ldcF (g := (mkF m 5 #[vR mp] [(.ref mp)])) X394 hx hown (mv hZ (wi hw 56 rfl)) rfl (hb hby d32_5) k) ?_
 show Rch p e below T394 (mkF m 7 #[vR mp] [(.float (1061158912 : UInt32)), (.ref mp)]) _
 obtain ⟨T396, h396, X396, e396, W396, st396⟩ := putF X394 hx hZ hown (host := "") (Or.inl (wi hw 57 rfl)) Via.refl K394 f8 f0 (Or.inr ⟨(wi hw 58 rfl), rfl, hnm⟩) (wi hw 38 rfl) (ty := .float) (by decide) rfl rfl (g := (mkF m 7 #[vR mp] [(.float (1061158912 : UInt32)), (.ref mp)])) rfl rfl (hb hby d32_7)
 have N397 := Fr.snoc X396 N395 gm
 have f399 := f1.other W396 (Or.inr (slot_ne (t := (.array (.object "java/util/HashMap$Node"))) (t' := .float) (Or.inl (wi hw 146 rfl)) (Or.inr (wi hw 58 rfl)) (by decide) (by decide) (by decide)))
 have f400 := f2.other W396 (Or.inr (slot_ne (t := .int) (t' := .float) (Or.inl (wi hw 142 rfl)) (Or.inr (wi hw 58 rfl)) (by decide) (by decide) (by decide)))
 have f401 := f3.other W396 (Or.inr (slot_ne (t := .int) (t' := .float) (Or.inl (wi hw 155 rfl)) (Or.inr (wi hw 58 rfl)) (by decide) (by decide) (by decide)))
 have f402 := f4.other W396 (Or.inr (slot_ne (t := .int) (t' := .float) (Or.inl (wi hw 144 rfl)) (Or.inr (wi hw 58 rfl)) (by decide) (by decide) (by decide)))
 have f403 := f5.other W396 (Or.inr (slot_ne (t := .int) (t' := .float) (Or.inl (wi hw 60 rfl)) (Or.inr (wi hw 58 rfl)) (by decide) (by decide) (by decide)))
 have f404 := f6.other W396 (Or.inr (slot_ne (t := (.object "java/util/LinkedHashMap$Entry")) (t' := .float) (Or.inl (wi hw 322 rfl)) (Or.inr (wi hw 58 rfl)) (by decide) (by decide) (by decide)))
 have f405 := f7.other W396 (Or.inr (slot_ne (t := (.object "java/util/LinkedHashMap$Entry")) (t' := .float) (Or.inl (wi hw 320 rfl)) (Or.inr (wi hw 58 rfl)) (by decide) (by decide) (by decide)))
 have f407 := f9.other W396 (Or.inr (slot_ne (t := .boolean) (t' := .float) (Or.inr (wi hw 62 rfl)) (Or.inr (wi hw 58 rfl)) (by decide) (by decide) (by decide)))
 have Kp409 : Keep h0 h396 [mp] := K00.wr W396 (Or.inl (List.mem_of_getElem? (i := 0) rfl))
 refine Rch.st (fun _ k => st396 _ k) ?_
 show Rch p e below T396 (mkF m 10 #[vR mp] []) _
 exact Rch.ret0 X396 hx Bd.returns (hb hby d32_10) (by rw [e396]; exact ⟨rfl, N397, Kp409, f399, f400, f401, f402, f403, f404, f405, f407⟩) (by decide) (by decide)

abbrev c33 : ByteArray := jdk_94_method_16_code
theorem d33_0 : decode c33 0 = .ok (.aload_n 0, 1) := by decide +kernel
theorem d33_1 : decode c33 1 = .ok (.invokespecial 87, 3) := by decide +kernel
theorem d33_4 : decode c33 4 = .ok (.aload_n 0, 1) := by decide +kernel
theorem d33_5 : decode c33 5 = .ok (.iconst 0, 1) := by decide +kernel
theorem d33_6 : decode c33 6 = .ok (.putfield 1, 3) := by decide +kernel
theorem d33_9 : decode c33 9 = .ok (.aload_n 0, 1) := by decide +kernel
theorem d33_10 : decode c33 10 = .ok (.iconst 0, 1) := by decide +kernel
theorem d33_11 : decode c33 11 = .ok (.putfield 64, 3) := by decide +kernel
theorem d33_14 : decode c33 14 = .ok (.return_, 1) := by decide +kernel
theorem pn_java_util_LinkedHashMap : plainName "java/util/LinkedHashMap" = true := by first | (simp [plainName, overriddenIn]; done) | decide +kernel
theorem ef_rm_LHM (m : MethodId) (mp : Addr)  : entryFrame m #[(.ref mp)] 1 = mkF m 0 #[vR mp] [] := by  first | (simp [entryFrame, mkF, argsToLocals, Value.category, maxLocals]; done) | rfl
def Q_rm_LHM (Z : State) (mp : Addr) (h0 : Heap) (n0 : Nat) (v : Option Value) (h : Heap) (L : List Loc) : Prop := (v = none) ∧ (Fr n0 L) ∧ (Keep h0 h [mp]) ∧ (Fld Z h mp "java/util/HashMap" "table" "[Ljava/util/HashMap$Node;" .null) ∧ (Fld Z h mp "java/util/HashMap" "size" "I" (.int (0 : Int32))) ∧ (Fld Z h mp "java/util/HashMap" "modCount" "I" (.int (0 : Int32))) ∧ (Fld Z h mp "java/util/HashMap" "threshold" "I" (.int (0 : Int32))) ∧ (Fld Z h mp "java/util/LinkedHashMap" "putMode" "I" (.int (0 : Int32))) ∧ (Fld Z h mp "java/util/LinkedHashMap" "head" "Ljava/util/LinkedHashMap$Entry;" .null) ∧ (Fld Z h mp "java/util/LinkedHashMap" "tail" "Ljava/util/LinkedHashMap$Entry;" .null)
set_option maxRecDepth 65536 in
set_option maxHeartbeats 40000000 in
theorem rm_LHM (l : Launch) (Z : State) (a0 : Array Value) (hw : ∀ d ∈ tables_1, d.before a0 Z = true) (ws : List Jvm.Cond) (mp : Addr) (h0 : Heap) (n0 : Nat) (Z0 : n0 ≤ h0.size) (f0 : Exa Z h0 mp "java/util/LinkedHashMap") (f1 : Fld Z h0 mp "java/util/HashMap" "table" "[Ljava/util/HashMap$Node;" .null) (f2 : Fld Z h0 mp "java/util/HashMap" "size" "I" (.int (0 : Int32))) (f3 : Fld Z h0 mp "java/util/HashMap" "modCount" "I" (.int (0 : Int32))) (f4 : Fld Z h0 mp "java/util/HashMap" "threshold" "I" (.int (0 : Int32))) (f5 : Fld Z h0 mp "java/util/LinkedHashMap" "putMode" "I" (.int (0 : Int32))) (f6 : Fld Z h0 mp "java/util/LinkedHashMap" "head" "Ljava/util/LinkedHashMap$Entry;" .null) (f7 : Fld Z h0 mp "java/util/LinkedHashMap" "tail" "Ljava/util/LinkedHashMap$Entry;" .null) (f8 : Fld Z h0 mp "java/util/HashMap" "loadFactor" "F" (.float 0)) (f9 : Fld Z h0 mp "java/util/LinkedHashMap" "accessOrder" "Z" (.int (0 : Int32))) (gm : n0 ≤ mp) :
    MetN l Z y_35 c33 1 none ws (Rm 3 0 0 36) #[(.ref mp)] h0 (Q_rm_LHM Z mp h0 n0) := by
 refine MetFree.of_bodySF (plainFor_of_name pn_java_util_LinkedHashMap) hisR ?_
 intro p e s m args below meth c s₁ Bd hml0 hP hK
 obtain ⟨rfl, hZ, hh⟩ := hP
 have hx := Bd.exec
 have hby := Bd.bytes
 have hml : c.maxLocals = 1 := hml0
 have hown : s.vm.findClass "java/util/LinkedHashMap" = some m.cls := findClass_of_methodNamed Bd.named
 have hnm := (name_of_methodNamed Bd.named Bd.method).1
 have X0 : Stand p l e (Rm 3 0 0 36) s m #[(.ref mp)] below meth c s₁ [] 0 0 := Stand.of_body Bd
 have e0 : s₁.heap = h0 := by rw [← hh, Bd.state]; rfl
 have N0 := Fr.nil n0
 have K00 : Keep h0 h0 [mp] := Keep.refl _ _
 show Rch p e below s₁ (entryFrame m #[(.ref mp)] 1) (FinP s (Q_rm_LHM Z mp h0 n0) 0 0)
 refine Rch.cast (ef_rm_LHM m mp) ?_
 show Rch p e below s₁ (mkF m 0 #[vR mp] []) _
 refine w_aloadN (pc' := 1) X0 hx hby d33_0 rfl rfl rfl ?_
 obtain ⟨_, _, ⟨T410, L410, k410, n410⟩, -, X410, ⟨Lc410, hQ410, l410, y410, z410⟩, st410⟩ := X0.specialBack hx (y := y_34) rfl hown (mvT hZ (wi hw 43 rfl)) (mvT hZ (wi hw 44 rfl)) (mvT hZ (wi hw 48 rfl)) (by decide) (backOf (W := 0) (rm_HM l Z a0 hw [] mp h0 n0 Z0 f0 f1 f2 f3 f4 f5 f6 f7 f8 f9 (gm)) hZ (wi hw 48 rfl) (wi hw 47 rfl) (by decide) (by decide)) (g := (mkF m 1 #[vR mp] [(.ref mp)])) rfl (by rw [hml]; rfl) (Steps.refl _) (a := mp) (argsL := []) (rest := []) (lenOf pd___V rfl) rfl (by show 2 * 0 + _ ≤ _; exact Nat.le_of_eq rfl) (hb hby d33_1) (fun _ _ => ⟨rfl, e0, (by decide : 0 + 0 ≤ _), (by decide : 0 + 0 ≤ _)⟩)
 dsimp only [Pt.U, Pt.locs, Pt.cells, Pt.slots] at X410 l410 y410 z410 st410 hQ410
 subst l410 y410 z410
 obtain ⟨rfl, NQ410, K410, fq410_0, fq410_1, fq410_2, fq410_3, fq410_4, fq410_5, fq410_6, fq410_7⟩ := hQ410
 have N411 := Fr.app N0 NQ410
 have f412 := f0.keep K410
 have Kp413 : Keep h0 T410.heap [mp] := K00.trans K410 (allS (Or.inl (List.mem_of_getElem? (i := 0) rfl)) all0)
 refine Rch.st (fun _ k => st410.trans k) ?_
 show Rch p e below T410 (mkF m 4 #[vR mp] []) _
 refine w_aloadN (pc' := 5) X410 hx hby d33_4 rfl rfl rfl ?_
 refine w_iconst (pc' := 6) (v := 0) X410 hx hby d33_5 rfl rfl ?_
 obtain ⟨T415, h415, X415, e415, W415, st415⟩ := putF X410 hx hZ hown (host := "") (Or.inl (wi hw 59 rfl)) Via.refl (rfl : T410.heap = T410.heap) fq410_4 f412 (Or.inl (wi hw 60 rfl)) (wi hw 38 rfl) (ty := .int) (by decide) rfl rfl (g := (mkF m 6 #[vR mp] [(.int 0), (.ref mp)])) rfl rfl (hb hby d33_6)
 have N416 := Fr.snoc X415 N411 gm
 have f417 := f412.wr W415
 have f418 := fq410_0.other W415 (Or.inr (slot_ne (t := (.array (.object "java/util/HashMap$Node"))) (t' := .int) (Or.inl (wi hw 146 rfl)) (Or.inl (wi hw 60 rfl)) (by decide) (by decide) (by decide)))
 have f419 := fq410_1.other W415 (Or.inr (slot_ne (t := .int) (t' := .int) (Or.inl (wi hw 142 rfl)) (Or.inl (wi hw 60 rfl)) (by decide) (by decide) (by decide)))
 have f420 := fq410_2.other W415 (Or.inr (slot_ne (t := .int) (t' := .int) (Or.inl (wi hw 155 rfl)) (Or.inl (wi hw 60 rfl)) (by decide) (by decide) (by decide)))
 have f421 := fq410_3.other W415 (Or.inr (slot_ne (t := .int) (t' := .int) (Or.inl (wi hw 144 rfl)) (Or.inl (wi hw 60 rfl)) (by decide) (by decide) (by decide)))
 have f422 := fq410_4.same W415
 have f423 := fq410_5.other W415 (Or.inr (slot_ne (t := (.object "java/util/LinkedHashMap$Entry")) (t' := .int) (Or.inl (wi hw 322 rfl)) (Or.inl (wi hw 60 rfl)) (by decide) (by decide) (by decide)))
 have f424 := fq410_6.other W415 (Or.inr (slot_ne (t := (.object "java/util/LinkedHashMap$Entry")) (t' := .int) (Or.inl (wi hw 320 rfl)) (Or.inl (wi hw 60 rfl)) (by decide) (by decide) (by decide)))
 have f425 := fq410_7.other W415 (Or.inr (slot_ne (t := .boolean) (t' := .int) (Or.inr (wi hw 62 rfl)) (Or.inl (wi hw 60 rfl)) (by decide) (by decide) (by decide)))
 have Kp427 : Keep h0 h415 [mp] := Kp413.wr W415 (Or.inl (List.mem_of_getElem? (i := 0) rfl))
 refine Rch.st (fun _ k => st415 _ k) ?_
 show Rch p e below T415 (mkF m 9 #[vR mp] []) _
 refine w_aloadN (pc' := 10) X415 hx hby d33_9 rfl rfl rfl ?_
 refine w_iconst (pc' := 11) (v := 0) X415 hx hby d33_10 rfl rfl ?_
 obtain ⟨T428, h428, X428, e428, W428, st428⟩ := putF X415 hx hZ hown (host := "") (Or.inl (wi hw 61 rfl)) Via.refl e415 f425 f417 (Or.inr ⟨(wi hw 62 rfl), rfl, hnm⟩) (wi hw 38 rfl) (ty := .boolean) (by decide) rfl rfl (g := (mkF m 11 #[vR mp] [(.int 0), (.ref mp)])) rfl rfl (hb hby d33_11)
 have N429 := Fr.snoc X428 N416 gm
 have f431 := f418.other W428 (Or.inr (slot_ne (t := (.array (.object "java/util/HashMap$Node"))) (t' := .boolean) (Or.inl (wi hw 146 rfl)) (Or.inr (wi hw 62 rfl)) (by decide) (by decide) (by decide)))
 have f432 := f419.other W428 (Or.inr (slot_ne (t := .int) (t' := .boolean) (Or.inl (wi hw 142 rfl)) (Or.inr (wi hw 62 rfl)) (by decide) (by decide) (by decide)))
 have f433 := f420.other W428 (Or.inr (slot_ne (t := .int) (t' := .boolean) (Or.inl (wi hw 155 rfl)) (Or.inr (wi hw 62 rfl)) (by decide) (by decide) (by decide)))
 have f434 := f421.other W428 (Or.inr (slot_ne (t := .int) (t' := .boolean) (Or.inl (wi hw 144 rfl)) (Or.inr (wi hw 62 rfl)) (by decide) (by decide) (by decide)))
 have f435 := f422.other W428 (Or.inr (slot_ne (t := .int) (t' := .boolean) (Or.inl (wi hw 60 rfl)) (Or.inr (wi hw 62 rfl)) (by decide) (by decide) (by decide)))
 have f436 := f423.other W428 (Or.inr (slot_ne (t := (.object "java/util/LinkedHashMap$Entry")) (t' := .boolean) (Or.inl (wi hw 322 rfl)) (Or.inr (wi hw 62 rfl)) (by decide) (by decide) (by decide)))
 have f437 := f424.other W428 (Or.inr (slot_ne (t := (.object "java/util/LinkedHashMap$Entry")) (t' := .boolean) (Or.inl (wi hw 320 rfl)) (Or.inr (wi hw 62 rfl)) (by decide) (by decide) (by decide)))
 have Kp440 : Keep h0 h428 [mp] := Kp427.wr W428 (Or.inl (List.mem_of_getElem? (i := 0) rfl))
 refine Rch.st (fun _ k => st428 _ k) ?_
 show Rch p e below T428 (mkF m 14 #[vR mp] []) _
 exact Rch.ret0 X428 hx Bd.returns (hb hby d33_14) (by rw [e428]; exact ⟨rfl, N429, Kp440, f431, f432, f433, f434, f435, f436, f437⟩) (by decide) (by decide)

abbrev c34 : ByteArray := jdk_40_method_36_code
theorem d34_0 : decode c34 0 = .ok (.getstatic 90, 3) := by decide +kernel
theorem d34_3 : decode c34 3 = .ok (.areturn, 1) := by decide +kernel
theorem pn_java_util_List : plainName "java/util/List" = true := by first | (simp [plainName, overriddenIn]; done) | decide +kernel
theorem ef_rm_of (m : MethodId) (G6 : Addr)  : entryFrame m #[] 0 = mkF m 0 #[] [] := by  first | (simp [entryFrame, mkF, argsToLocals, Value.category, maxLocals]; done) | rfl
def Q_rm_of (Z : State) (G6 : Addr) (h0 : Heap) (n0 : Nat) (v : Option Value) (h : Heap) (L : List Loc) : Prop := (v = some (.ref G6)) ∧ (Fr n0 L) ∧ (h = h0)
set_option maxRecDepth 65536 in
set_option maxHeartbeats 40000000 in
theorem rm_of (l : Launch) (Z : State) (a0 : Array Value) (hw : ∀ d ∈ tables_1, d.before a0 Z = true) (ws : List Jvm.Cond) (G6 : Addr) (h0 : Heap) (n0 : Nat) (Z0 : n0 ≤ h0.size) (O6 : Sta Z Z.heap "java/util/ImmutableCollections" "EMPTY_LIST" "Ljava/util/ImmutableCollections$ListN;" (.ref G6)) (Old0 : OldL Z n0 h0) :
    MetN l Z y_36 c34 0 (some (.object "java/util/List")) ws (Rm 0 0 0 0) #[] h0 (Q_rm_of Z G6 h0 n0) := by
 refine MetFree.of_bodySF (plainFor_of_name pn_java_util_List) hisR ?_
 intro p e s m args below meth c s₁ Bd hml0 hP hK
 obtain ⟨rfl, hZ, hh⟩ := hP
 have hx := Bd.exec
 have hby := Bd.bytes
 have hml : c.maxLocals = 0 := hml0
 have hown : s.vm.findClass "java/util/List" = some m.cls := findClass_of_methodNamed Bd.named
 have X0 : Stand p l e (Rm 0 0 0 0) s m #[] below meth c s₁ [] 0 0 := Stand.of_body Bd
 have e0 : s₁.heap = h0 := by rw [← hh, Bd.state]; rfl
 have N0 := Fr.nil n0
 have K00 : Keep h0 h0 [] := Keep.refl _ _
 show Rch p e below s₁ (entryFrame m #[] 0) (FinP s (Q_rm_of Z G6 h0 n0) 0 0)
 refine Rch.cast (ef_rm_of m G6) ?_
 show Rch p e below s₁ (mkF m 0 #[] []) _
 obtain ⟨T441, X441, e441, st441⟩ := getS X0 hx hZ hown (host := "") (wi hw 69 rfl) Via.refl e0 (O6.ext Old0.2) (g := (mkF m 0 #[] [])) rfl (hb hby d34_0)
 refine Rch.st (fun _ k => st441 _ k) ?_
 show Rch p e below T441 (mkF m 3 #[] [(.ref G6)]) _
 exact Rch.retV X441 hx Bd.returns rfl (Or.inr (Or.inr (Or.inr (Or.inr ⟨rfl, rfl, rfl⟩)))) (hb hby d34_3) (by rw [e441]; exact ⟨rfl, N0, rfl⟩) (by decide) (by decide)

abbrev c35 : ByteArray := prog_50_method_3_code
theorem d35_0 : decode c35 0 = .ok (.aload_n 0, 1) := by decide +kernel
theorem d35_1 : decode c35 1 = .ok (.invokespecial 7, 3) := by decide +kernel
theorem d35_4 : decode c35 4 = .ok (.aload_n 0, 1) := by decide +kernel
theorem d35_5 : decode c35 5 = .ok (.new 12, 3) := by decide +kernel
theorem d35_8 : decode c35 8 = .ok (.dup, 1) := by decide +kernel
theorem d35_9 : decode c35 9 = .ok (.invokespecial 14, 3) := by decide +kernel
theorem d35_12 : decode c35 12 = .ok (.putfield 15, 3) := by decide +kernel
theorem d35_15 : decode c35 15 = .ok (.aload_n 0, 1) := by decide +kernel
theorem d35_16 : decode c35 16 = .ok (.invokestatic 19, 3) := by decide +kernel
theorem d35_19 : decode c35 19 = .ok (.putfield 25, 3) := by decide +kernel
theorem d35_22 : decode c35 22 = .ok (.aload_n 0, 1) := by decide +kernel
theorem d35_23 : decode c35 23 = .ok (.aload_n 1, 1) := by decide +kernel
theorem d35_24 : decode c35 24 = .ok (.putfield 29, 3) := by decide +kernel
theorem d35_27 : decode c35 27 = .ok (.aload_n 0, 1) := by decide +kernel
theorem d35_28 : decode c35 28 = .ok (.aload_n 2, 1) := by decide +kernel
theorem d35_29 : decode c35 29 = .ok (.putfield 33, 3) := by decide +kernel
theorem d35_32 : decode c35 32 = .ok (.aload_n 0, 1) := by decide +kernel
theorem d35_33 : decode c35 33 = .ok (.aload_n 3, 1) := by decide +kernel
theorem d35_34 : decode c35 34 = .ok (.putfield 37, 3) := by decide +kernel
theorem d35_37 : decode c35 37 = .ok (.aload_n 0, 1) := by decide +kernel
theorem d35_38 : decode c35 38 = .ok (.aload 4, 2) := by decide +kernel
theorem d35_40 : decode c35 40 = .ok (.putfield 40, 3) := by decide +kernel
theorem d35_43 : decode c35 43 = .ok (.return_, 1) := by decide +kernel
theorem pn_com_example_mandoline_mandoline_Variable : plainName "com/example/mandoline/mandoline/Variable" = true := by first | (simp [plainName, overriddenIn]; done) | decide +kernel
theorem ef_rm_v4 (m : MethodId) (G6 : Addr) (va : Addr) (nm : Addr) (ds : Value) (fv : Value) (cv : Value) (hds : ds.isRef = true) (hfv : fv.isRef = true) (hcv : cv.isRef = true) : entryFrame m #[(.ref va), (.ref nm), ds, fv, cv] 5 = mkF m 0 #[vR va, vR nm, .val ds, .val fv, .val cv] [] := by rcases ref_cases hds with rfl | ⟨_, rfl⟩ <;> rcases ref_cases hfv with rfl | ⟨_, rfl⟩ <;> rcases ref_cases hcv with rfl | ⟨_, rfl⟩ <;> first | (simp [entryFrame, mkF, argsToLocals, Value.category, maxLocals]; done) | rfl
def Q_rm_v4 (Z : State) (G6 : Addr) (va : Addr) (nm : Addr) (ds : Value) (fv : Value) (cv : Value) (h0 : Heap) (n0 : Nat) (v : Option Value) (h : Heap) (L : List Loc) : Prop := ∃ (m2 : Addr), (v = none) ∧ (Fr n0 L) ∧ (Keep h0 h [va]) ∧ (h0.size ≤ m2) ∧ (Fld Z h va "com/example/mandoline/mandoline/Variable" "fields" "Ljava/util/Map;" (.ref m2)) ∧ (Fld Z h va "com/example/mandoline/mandoline/Variable" "name" "Ljava/lang/String;" (.ref nm)) ∧ (Fld Z h va "com/example/mandoline/mandoline/Variable" "function" "Ljava/lang/String;" fv) ∧ (Fld Z h va "com/example/mandoline/mandoline/Variable" "containing" "Lcom/example/mandoline/mandoline/Variable;" cv) ∧ (Fld Z h va "com/example/mandoline/mandoline/Variable" "declaringStatement" "Lcom/example/mandoline/mandoline/ClangNode;" ds) ∧ (Exa Z h m2 "java/util/LinkedHashMap") ∧ (Fld Z h m2 "java/util/HashMap" "table" "[Ljava/util/HashMap$Node;" .null) ∧ (Fld Z h m2 "java/util/HashMap" "size" "I" (.int (0 : Int32))) ∧ (Fld Z h m2 "java/util/HashMap" "modCount" "I" (.int (0 : Int32))) ∧ (Fld Z h m2 "java/util/HashMap" "threshold" "I" (.int (0 : Int32))) ∧ (Fld Z h m2 "java/util/LinkedHashMap" "putMode" "I" (.int (0 : Int32))) ∧ (Fld Z h m2 "java/util/LinkedHashMap" "head" "Ljava/util/LinkedHashMap$Entry;" .null) ∧ (Fld Z h m2 "java/util/LinkedHashMap" "tail" "Ljava/util/LinkedHashMap$Entry;" .null)
theorem pd___Ljava_util_List_ : parseMethodDescriptor "()Ljava/util/List;" = some ⟨[], (some (.object "java/util/List"))⟩ := by decide +kernel
set_option maxRecDepth 65536 in
set_option maxHeartbeats 40000000 in
theorem rm_v4 (l : Launch) (Z : State) (a0 : Array Value) (hw : ∀ d ∈ tables_1, d.before a0 Z = true) (ws : List Jvm.Cond) (G6 : Addr) (va : Addr) (nm : Addr) (ds : Value) (fv : Value) (cv : Value) (h0 : Heap) (n0 : Nat) (Z0 : n0 ≤ h0.size) (O6 : Sta Z Z.heap "java/util/ImmutableCollections" "EMPTY_LIST" "Ljava/util/ImmutableCollections$ListN;" (.ref G6)) (f1 : Exa Z h0 va "com/example/mandoline/mandoline/Variable") (f2 : Fld Z h0 va "com/example/mandoline/mandoline/Variable" "fields" "Ljava/util/Map;" .null) (f3 : Fld Z h0 va "com/example/mandoline/mandoline/Variable" "declarationNodes" "Ljava/util/List;" .null) (f4 : Fld Z h0 va "com/example/mandoline/mandoline/Variable" "name" "Ljava/lang/String;" .null) (f5 : Fld Z h0 va "com/example/mandoline/mandoline/Variable" "declaringStatement" "Lcom/example/mandoline/mandoline/ClangNode;" .null) (f6 : Fld Z h0 va "com/example/mandoline/mandoline/Variable" "function" "Ljava/lang/String;" .null) (f7 : Fld Z h0 va "com/example/mandoline/mandoline/Variable" "containing" "Lcom/example/mandoline/mandoline/Variable;" .null) (gv : n0 ≤ va) (hds : ds.isRef = true) (hfv : fv.isRef = true) (hcv : cv.isRef = true) (Old0 : OldL Z n0 h0) :
    MetN l Z y_37 c35 5 none ws (Rm 4 1 12 50) #[(.ref va), (.ref nm), ds, fv, cv] h0 (Q_rm_v4 Z G6 va nm ds fv cv h0 n0) := by
 refine MetFree.of_bodySF (plainFor_of_name pn_com_example_mandoline_mandoline_Variable) hisR ?_
 intro p e s m args below meth c s₁ Bd hml0 hP hK
 obtain ⟨rfl, hZ, hh⟩ := hP
 have hx := Bd.exec
 have hby := Bd.bytes
 have hml : c.maxLocals = 5 := hml0
 have hown : s.vm.findClass "com/example/mandoline/mandoline/Variable" = some m.cls := findClass_of_methodNamed Bd.named
 have hnm := (name_of_methodNamed Bd.named Bd.method).1
 have X0 : Stand p l e (Rm 4 1 12 50) s m #[(.ref va), (.ref nm), ds, fv, cv] below meth c s₁ [] 0 0 := Stand.of_body Bd
 have e0 : s₁.heap = h0 := by rw [← hh, Bd.state]; rfl
 have N0 := Fr.nil n0
 have K00 : Keep h0 h0 [va] := Keep.refl _ _
 show Rch p e below s₁ (entryFrame m #[(.ref va), (.ref nm), ds, fv, cv] 5) (FinP s (Q_rm_v4 Z G6 va nm ds fv cv h0 n0) 1 12)
 refine Rch.cast (ef_rm_v4 m G6 va nm ds fv cv hds hfv hcv) ?_
 show Rch p e below s₁ (mkF m 0 #[vR va, vR nm, .val ds, .val fv, .val cv] []) _
 refine w_aloadN (pc' := 1) X0 hx hby d35_0 rfl rfl rfl ?_
 obtain ⟨T442, X442, e442, st442⟩ := initO X0 hx hZ hown (wi hw 36 rfl) (wi hw 24 rfl) (wi hw 25 rfl) e0 (g := (mkF m 1 #[vR va, vR nm, .val ds, .val fv, .val cv] [(.ref va)])) rfl (by rw [hml]; rfl) rfl (hb hby d35_1) (by decide) (W := 0) (by show 2 * 0 + _ ≤ _; exact Nat.le_of_eq rfl) (by decide)
 refine Rch.st (fun _ k => st442 _ k) ?_
 show Rch p e below T442 (mkF m 4 #[vR va, vR nm, .val ds, .val fv, .val cv] []) _
 refine w_aloadN (pc' := 5) X442 hx hby d35_4 rfl rfl rfl ?_
 obtain ⟨T443, h443, X443, e443, E443, A443, D443, -, st443⟩ := newO X442 hx hZ hown (wi hw 37 rfl) (wi hw 38 rfl) (wi hw 39 rfl) e442 (g := (mkF m 5 #[vR va, vR nm, .val ds, .val fv, .val cv] [(.ref va)])) rfl (hb hby d35_5) (by decide) (by decide)
 obtain ⟨a443, g443⟩ : ∃ z, z = h0.size := ⟨_, rfl⟩
 rw [← g443] at A443 D443 st443
 have ne444 : va ≠ a443 := by rw [g443]; exact Nat.ne_of_lt f1.lt
 have ge445 : n0 ≤ a443 := Nat.le_trans Z0 (Nat.le_of_eq g443.symm)
 have f447 := f1.ext E443
 have f448 := f2.ext E443
 have f449 := f3.ext E443
 have f450 := f4.ext E443
 have f451 := f5.ext E443
 have f452 := f6.ext E443
 have f453 := f7.ext E443
 have Old454 := Old0.ext E443
 have Z455 := Nat.le_trans Z0 E443.1
 have Kp456 : Keep h0 h443 [va] := K00.ext E443
 have f457 : Fld Z h443 a443 "java/util/HashMap" "table" "[Ljava/util/HashMap$Node;" .null := D443 (Or.inl (wi hw 146 rfl)) (ty := (.array (.object "java/util/HashMap$Node"))) (by decide)
 have f458 : Fld Z h443 a443 "java/util/HashMap" "size" "I" (.int (0 : Int32)) := D443 (Or.inl (wi hw 142 rfl)) (ty := .int) (by decide)
 have f459 : Fld Z h443 a443 "java/util/HashMap" "modCount" "I" (.int (0 : Int32)) := D443 (Or.inl (wi hw 155 rfl)) (ty := .int) (by decide)
 have f460 : Fld Z h443 a443 "java/util/HashMap" "threshold" "I" (.int (0 : Int32)) := D443 (Or.inl (wi hw 144 rfl)) (ty := .int) (by decide)
 have f461 : Fld Z h443 a443 "java/util/LinkedHashMap" "putMode" "I" (.int (0 : Int32)) := D443 (Or.inl (wi hw 60 rfl)) (ty := .int) (by decide)
 have f462 : Fld Z h443 a443 "java/util/LinkedHashMap" "head" "Ljava/util/LinkedHashMap$Entry;" .null := D443 (Or.inl (wi hw 322 rfl)) (ty := (.object "java/util/LinkedHashMap$Entry")) (by decide)
 have f463 : Fld Z h443 a443 "java/util/LinkedHashMap" "tail" "Ljava/util/LinkedHashMap$Entry;" .null := D443 (Or.inl (wi hw 320 rfl)) (ty := (.object "java/util/LinkedHashMap$Entry")) (by decide)
 have f464 : Fld Z h443 a443 "java/util/HashMap" "loadFactor" "F" (.float 0) := D443 (Or.inr (wi hw 58 rfl)) (ty := .float) (by decide)
 have f465 : Fld Z h443 a443 "java/util/LinkedHashMap" "accessOrder" "Z" (.int (0 : Int32)) := D443 (Or.inr (wi hw 62 rfl)) (ty := .boolean) (by decide)
 refine Rch.st (fun _ k => st443 _ k) ?_
 show Rch p e below T443 (mkF m 8 #[vR va, vR nm, .val ds, .val fv, .val cv] [(.ref a443), (.ref va)]) _
 refine w_dup (pc' := 9) X443 hx hby d35_8 rfl rfl ?_
 obtain ⟨_, _, ⟨T466, L466, k466, n466⟩, -, X466, ⟨Lc466, hQ466, l466, y466, z466⟩, st466⟩ := X443.specialBack hx (y := y_35) rfl hown (mvT hZ (wi hw 40 rfl)) (mvT hZ (wi hw 41 rfl)) (mvT hZ (wi hw 42 rfl)) (by decide) (backOf (W := 2) (rm_LHM l Z a0 hw [] a443 h443 n0 Z455 A443 f457 f458 f459 f460 f461 f462 f463 f464 f465 (ge445)) hZ (wi hw 42 rfl) (wi hw 39 rfl) (by decide) (by decide)) (g := (mkF m 9 #[vR va, vR nm, .val ds, .val fv, .val cv] [(.ref a443), (.ref a443), (.ref va)])) rfl (by rw [hml]; rfl) (Steps.refl _) (a := a443) (argsL := []) (rest := [(.ref a443), (.ref va)]) (lenOf pd___V rfl) rfl (by show 2 * 0 + _ ≤ _; exact Nat.le_of_eq rfl) (hb hby d35_9) (fun _ _ => ⟨rfl, e443, (by decide : 1 + 0 ≤ _), (by decide : 12 + 0 ≤ _)⟩)
 dsimp only [Pt.U, Pt.locs, Pt.cells, Pt.slots] at X466 l466 y466 z466 st466 hQ466
 subst l466 y466 z466
 obtain ⟨rfl, NQ466, K466, fq466_0, fq466_1, fq466_2, fq466_3, fq466_4, fq466_5, fq466_6⟩ := hQ466
 have N467 := Fr.app N0 NQ466
 have f468 := f447.keep K466
 have f469 := f448.keep K466 (ninS ne444 nin0)
 have f470 := f449.keep K466 (ninS ne444 nin0)
 have f471 := f450.keep K466 (ninS ne444 nin0)
 have f472 := f451.keep K466 (ninS ne444 nin0)
 have f473 := f452.keep K466 (ninS ne444 nin0)
 have f474 := f453.keep K466 (ninS ne444 nin0)
 have f475 := A443.keep K466
 have Old476 := Old454.keep K466 (allS ge445 all0)
 have Kp477 : Keep h0 T466.heap [va] := Kp456.trans K466 (allS (Or.inr (Nat.le_trans K00.1 (Nat.le_of_eq g443.symm))) all0)
 have Z478 := Nat.le_trans Z455 K466.1
 refine Rch.st (fun _ k => st466.trans k) ?_
 show Rch p e below T466 (mkF m 12 #[vR va, vR nm, .val ds, .val fv, .val cv] [(.ref a443), (.ref va)]) _
 obtain ⟨T479, h479, X479, e479, W479, st479⟩ := putF X466 hx hZ hown (host := "") (Or.inl (wi hw 63 rfl)) Via.refl (rfl : T466.heap = T466.heap) f469 f468 (Or.inr ⟨(wi hw 64 rfl), rfl, hnm⟩) (wi hw 2 rfl) (ty := (.object "java/util/Map")) (by decide) rfl rfl (g := (mkF m 12 #[vR va, vR nm, .val ds, .val fv, .val cv] [(.ref a443), (.ref va)])) rfl rfl (hb hby d35_12)
 have N480 := Fr.snoc X479 N467 gv
 have f481 := f468.wr W479
 have f482 := f469.same W479
 have f483 := f470.other W479 (Or.inr (slot_ne (t := (.object "java/util/List")) (t' := (.object "java/util/Map")) (Or.inl (wi hw 72 rfl)) (Or.inr (wi hw 64 rfl)) (by decide) (by decide) (by decide)))
 have f484 := f471.other W479 (Or.inr (slot_ne (t := (.object "java/lang/String")) (t' := (.object "java/util/Map")) (Or.inr (wi hw 74 rfl)) (Or.inr (wi hw 64 rfl)) (by decide) (by decide) (by decide)))
 have f485 := f472.other W479 (Or.inr (slot_ne (t := (.object "com/example/mandoline/mandoline/ClangNode")) (t' := (.object "java/util/Map")) (Or.inr (wi hw 76 rfl)) (Or.inr (wi hw 64 rfl)) (by decide) (by decide) (by decide)))
 have f486 := f473.other W479 (Or.inr (slot_ne (t := (.object "java/lang/String")) (t' := (.object "java/util/Map")) (Or.inr (wi hw 78 rfl)) (Or.inr (wi hw 64 rfl)) (by decide) (by decide) (by decide)))
 have f487 := f474.other W479 (Or.inr (slot_ne (t := (.object "com/example/mandoline/mandoline/Variable")) (t' := (.object "java/util/Map")) (Or.inr (wi hw 80 rfl)) (Or.inr (wi hw 64 rfl)) (by decide) (by decide) (by decide)))
 have f488 := f475.wr W479
 have f489 := fq466_0.other W479 (Or.inl (Ne.symm ne444))
 have f490 := fq466_1.other W479 (Or.inl (Ne.symm ne444))
 have f491 := fq466_2.other W479 (Or.inl (Ne.symm ne444))
 have f492 := fq466_3.other W479 (Or.inl (Ne.symm ne444))
 have f493 := fq466_4.other W479 (Or.inl (Ne.symm ne444))
 have f494 := fq466_5.other W479 (Or.inl (Ne.symm ne444))
 have f495 := fq466_6.other W479 (Or.inl (Ne.symm ne444))
 have Old496 := Old476.wr W479 gv
 have Z497 := Nat.le_trans Z478 (Keep.of_wr W479).1
 have Kp498 : Keep h0 h479 [va] := Kp477.wr W479 (Or.inl (List.mem_of_getElem? (i := 0) rfl))
 refine Rch.st (fun _ k => st479 _ k) ?_
 show Rch p e below T479 (mkF m 15 #[vR va, vR nm, .val ds, .val fv, .val cv] []) _
 refine w_aloadN (pc' := 16) X479 hx hby d35_15 rfl rfl rfl ?_
 obtain ⟨_, _, ⟨T499, L499, k499, n499⟩, -, X499, ⟨Lc499, hQ499, l499, y499, z499⟩, st499⟩ := Jvm.LawKit.callS X479 hx (y := y_36) hown (mvT hZ (wi hw 65 rfl)) (mvT hZ (wi hw 66 rfl)) (mvT hZ (wi hw 67 rfl)) (mvT hZ (wi hw 68 rfl)) (by decide) (backOf (W := 1) (rm_of l Z a0 hw [] G6 h479 n0 Z497 (O6) Old496) hZ (wi hw 68 rfl) (wi hw 67 rfl) (by decide) (by decide)) (g := (mkF m 16 #[vR va, vR nm, .val ds, .val fv, .val cv] [(.ref va)])) rfl (by rw [hml]; rfl) (argsL := []) (rest := [(.ref va)]) (lenOf pd___Ljava_util_List_ rfl) rfl (by show 2 * 0 + _ ≤ _; exact Nat.le_of_eq rfl) (hb hby d35_16) (fun _ _ => ⟨rfl, e479, (by decide : 1 + 0 ≤ _), (by decide : 12 + 0 ≤ _)⟩)
 dsimp only [Pt.U, Pt.locs, Pt.cells, Pt.slots] at X499 l499 y499 z499 st499 hQ499
 subst l499 y499 z499
 obtain ⟨rfl, NQ499, K499⟩ := hQ499
 have N500 := Fr.app N480 NQ499
 refine Rch.st (fun _ k => st499 _ k) ?_
 show Rch p e below T499 (mkF m 19 #[vR va, vR nm, .val ds, .val fv, .val cv] [(.ref G6), (.ref va)]) _
 obtain ⟨T501, h501, X501, e501, W501, st501⟩ := putF X499 hx hZ hown (host := "") (Or.inl (wi hw 71 rfl)) Via.refl K499 f483 f481 (Or.inl (wi hw 72 rfl)) (wi hw 2 rfl) (ty := (.object "java/util/List")) (by decide) rfl rfl (g := (mkF m 19 #[vR va, vR nm, .val ds, .val fv, .val cv] [(.ref G6), (.ref va)])) rfl rfl (hb hby d35_19)
 have N502 := Fr.snoc X501 N500 gv
 have f503 := f481.wr W501
 have f504 := f482.other W501 (Or.inr (slot_ne (t := (.object "java/util/Map")) (t' := (.object "java/util/List")) (Or.inr (wi hw 64 rfl)) (Or.inl (wi hw 72 rfl)) (by decide) (by decide) (by decide)))
 have f506 := f484.other W501 (Or.inr (slot_ne (t := (.object "java/lang/String")) (t' := (.object "java/util/List")) (Or.inr (wi hw 74 rfl)) (Or.inl (wi hw 72 rfl)) (by decide) (by decide) (by decide)))
 have f507 := f485.other W501 (Or.inr (slot_ne (t := (.object "com/example/mandoline/mandoline/ClangNode")) (t' := (.object "java/util/List")) (Or.inr (wi hw 76 rfl)) (Or.inl (wi hw 72 rfl)) (by decide) (by decide) (by decide)))
 have f508 := f486.other W501 (Or.inr (slot_ne (t := (.object "java/lang/String")) (t' := (.object "java/util/List")) (Or.inr (wi hw 78 rfl)) (Or.inl (wi hw 72 rfl)) (by decide) (by decide) (by decide)))
 have f509 := f487.other W501 (Or.inr (slot_ne (t := (.object "com/example/mandoline/mandoline/Variable")) (t' := (.object "java/util/List")) (Or.inr (wi hw 80 rfl)) (Or.inl (wi hw 72 rfl)) (by decide) (by decide) (by decide)))
 have f510 := f488.wr W501
 have f511 := f489.other W501 (Or.inl (Ne.symm ne444))
 have f512 := f490.other W501 (Or.inl (Ne.symm ne444))
 have f513 := f491.other W501 (Or.inl (Ne.symm ne444))
 have f514 := f492.other W501 (Or.inl (Ne.symm ne444))
 have f515 := f493.other W501 (Or.inl (Ne.symm ne444))
 have f516 := f494.other W501 (Or.inl (Ne.symm ne444))
 have f517 := f495.other W501 (Or.inl (Ne.symm ne444))
 have Kp520 : Keep h0 h501 [va] := Kp498.wr W501 (Or.inl (List.mem_of_getElem? (i := 0) rfl))
 refine Rch.st (fun _ k => st501 _ k) ?_
 show Rch p e below T501 (mkF m 22 #[vR va, vR nm, .val ds, .val fv, .val cv] []) _
 refine w_aloadN (pc' := 23) X501 hx hby d35_22 rfl rfl rfl ?_
 refine w_aloadN (pc' := 24) X501 hx hby d35_23 rfl rfl rfl ?_
 obtain ⟨T521, h521, X521, e521, W521, st521⟩ := putF X501 hx hZ hown (host := "") (Or.inl (wi hw 73 rfl)) Via.refl e501 f506 f503 (Or.inr ⟨(wi hw 74 rfl), rfl, hnm⟩) (wi hw 2 rfl) (ty := (.object "java/lang/String")) (by decide) rfl rfl (g := (mkF m 24 #[vR va, vR nm, .val ds, .val fv, .val cv] [(.ref nm), (.ref va)])) rfl rfl (hb hby d35_24)
 have N522 := Fr.snoc X521 N502 gv
 have f523 := f503.wr W521
 have f524 := f504.other W521 (Or.inr (slot_ne (t := (.object "java/util/Map")) (t' := (.object "java/lang/String")) (Or.inr (wi hw 64 rfl)) (Or.inr (wi hw 74 rfl)) (by decide) (by decide) (by decide)))
 have f526 := f506.same W521
 have f527 := f507.other W521 (Or.inr (slot_ne (t := (.object "com/example/mandoline/mandoline/ClangNode")) (t' := (.object "java/lang/String")) (Or.inr (wi hw 76 rfl)) (Or.inr (wi hw 74 rfl)) (by decide) (by decide) (by decide)))
 have f528 := f508.other W521 (Or.inr (slot_ne (t := (.object "java/lang/String")) (t' := (.object "java/lang/String")) (Or.inr (wi hw 78 rfl)) (Or.inr (wi hw 74 rfl)) (by decide) (by decide) (by decide)))
 have f529 := f509.other W521 (Or.inr (slot_ne (t := (.object "com/example/mandoline/mandoline/Variable")) (t' := (.object "java/lang/String")) (Or.inr (wi hw 80 rfl)) (Or.inr (wi hw 74 rfl)) (by decide) (by decide) (by decide)))
 have f530 := f510.wr W521
 have f531 := f511.other W521 (Or.inl (Ne.symm ne444))
 have f532 := f512.other W521 (Or.inl (Ne.symm ne444))
 have f533 := f513.other W521 (Or.inl (Ne.symm ne444))
 have f534 := f514.other W521 (Or.inl (Ne.symm ne444))
 have f535 := f515.other W521 (Or.inl (Ne.symm ne444))
 have f536 := f516.other W521 (Or.inl (Ne.symm ne444))
 have f537 := f517.other W521 (Or.inl (Ne.symm ne444))
 have Kp540 : Keep h0 h521 [va] := Kp520.wr W521 (Or.inl (List.mem_of_getElem? (i := 0) rfl))
 refine Rch.st (fun _ k => st521 _ k) ?_
 show Rch p e below T521 (mkF m 27 #[vR va, vR nm, .val ds, .val fv, .val cv] []) _
 refine w_aloadN (pc' := 28) X521 hx hby d35_27 rfl rfl rfl ?_
 refine w_aloadN (pc' := 29) X521 hx hby d35_28 rfl hds rfl ?_
 obtain ⟨T541, h541, X541, e541, W541, st541⟩ := putF X521 hx hZ hown (host := "") (Or.inl (wi hw 75 rfl)) Via.refl e521 f527 f523 (Or.inr ⟨(wi hw 76 rfl), rfl, hnm⟩) (wi hw 2 rfl) (ty := (.object "com/example/mandoline/mandoline/ClangNode")) (by decide) (Rnar hds) (Rfit rfl hds) (g := (mkF m 29 #[vR va, vR nm, .val ds, .val fv, .val cv] [ds, (.ref va)])) rfl rfl (hb hby d35_29)
 have N542 := Fr.snoc X541 N522 gv
 have f543 := f523.wr W541
 have f544 := f524.other W541 (Or.inr (slot_ne (t := (.object "java/util/Map")) (t' := (.object "com/example/mandoline/mandoline/ClangNode")) (Or.inr (wi hw 64 rfl)) (Or.inr (wi hw 76 rfl)) (by decide) (by decide) (by decide)))
 have f546 := f526.other W541 (Or.inr (slot_ne (t := (.object "java/lang/String")) (t' := (.object "com/example/mandoline/mandoline/ClangNode")) (Or.inr (wi hw 74 rfl)) (Or.inr (wi hw 76 rfl)) (by decide) (by decide) (by decide)))
 have f547 := f527.same W541
 have f548 := f528.other W541 (Or.inr (slot_ne (t := (.object "java/lang/String")) (t' := (.object "com/example/mandoline/mandoline/ClangNode")) (Or.inr (wi hw 78 rfl)) (Or.inr (wi hw 76 rfl)) (by decide) (by decide) (by decide)))
 have f549 := f529.other W541 (Or.inr (slot_ne (t := (.object "com/example/mandoline/mandoline/Variable")) (t' := (.object "com/example/mandoline/mandoline/ClangNode")) (Or.inr (wi hw 80 rfl)) (Or.inr (wi hw 76 rfl)) (by decide) (by decide) (by decide)))
 have f550 := f530.wr W541
 have f551 := f531.other W541 (Or.inl (Ne.symm ne444))
 have f552 := f532.other W541 (Or.inl (Ne.symm ne444))
 have f553 := f533.other W541 (Or.inl (Ne.symm ne444))
 have f554 := f534.other W541 (Or.inl (Ne.symm ne444))
 have f555 := f535.other W541 (Or.inl (Ne.symm ne444))
 have f556 := f536.other W541 (Or.inl (Ne.symm ne444))
 have f557 := f537.other W541 (Or.inl (Ne.symm ne444))
 have Kp560 : Keep h0 h541 [va] := Kp540.wr W541 (Or.inl (List.mem_of_getElem? (i := 0) rfl))
 refine Rch.st (fun _ k => st541 _ k) ?_
 show Rch p e below T541 (mkF m 32 #[vR va, vR nm, .val ds, .val fv, .val cv] []) _
 refine w_aloadN (pc' := 33) X541 hx hby d35_32 rfl rfl rfl ?_
 refine w_aloadN (pc' := 34) X541 hx hby d35_33 rfl hfv rfl ?_
 obtain ⟨T561, h561, X561, e561, W561, st561⟩ := putF X541 hx hZ hown (host := "") (Or.inl (wi hw 77 rfl)) Via.refl e541 f548 f543 (Or.inr ⟨(wi hw 78 rfl), rfl, hnm⟩) (wi hw 2 rfl) (ty := (.object "java/lang/String")) (by decide) (Rnar hfv) (Rfit rfl hfv) (g := (mkF m 34 #[vR va, vR nm, .val ds, .val fv, .val cv] [fv, (.ref va)])) rfl rfl (hb hby d35_34)
 have N562 := Fr.snoc X561 N542 gv
 have f563 := f543.wr W561
 have f564 := f544.other W561 (Or.inr (slot_ne (t := (.object "java/util/Map")) (t' := (.object "java/lang/String")) (Or.inr (wi hw 64 rfl)) (Or.inr (wi hw 78 rfl)) (by decide) (by decide) (by decide)))
 have f566 := f546.other W561 (Or.inr (slot_ne (t := (.object "java/lang/String")) (t' := (.object "java/lang/String")) (Or.inr (wi hw 74 rfl)) (Or.inr (wi hw 78 rfl)) (by decide) (by decide) (by decide)))
 have f567 := f547.other W561 (Or.inr (slot_ne (t := (.object "com/example/mandoline/mandoline/ClangNode")) (t' := (.object "java/lang/String")) (Or.inr (wi hw 76 rfl)) (Or.inr (wi hw 78 rfl)) (by decide) (by decide) (by decide)))
 have f568 := f548.same W561
 have f569 := f549.other W561 (Or.inr (slot_ne (t := (.object "com/example/mandoline/mandoline/Variable")) (t' := (.object "java/lang/String")) (Or.inr (wi hw 80 rfl)) (Or.inr (wi hw 78 rfl)) (by decide) (by decide) (by decide)))
 have f570 := f550.wr W561
 have f571 := f551.other W561 (Or.inl (Ne.symm ne444))
 have f572 := f552.other W561 (Or.inl (Ne.symm ne444))
 have f573 := f553.other W561 (Or.inl (Ne.symm ne444))
 have f574 := f554.other W561 (Or.inl (Ne.symm ne444))
 have f575 := f555.other W561 (Or.inl (Ne.symm ne444))
 have f576 := f556.other W561 (Or.inl (Ne.symm ne444))
 have f577 := f557.other W561 (Or.inl (Ne.symm ne444))
 have Kp580 : Keep h0 h561 [va] := Kp560.wr W561 (Or.inl (List.mem_of_getElem? (i := 0) rfl))
 refine Rch.st (fun _ k => st561 _ k) ?_
 show Rch p e below T561 (mkF m 37 #[vR va, vR nm, .val ds, .val fv, .val cv] []) _
 refine w_aloadN (pc' := 38) X561 hx hby d35_37 rfl rfl rfl ?_
 refine w_aload (pc' := 40) X561 hx hby d35_38 rfl hcv rfl ?_
 obtain ⟨T581, h581, X581, e581, W581, st581⟩ := putF X561 hx hZ hown (host := "") (Or.inl (wi hw 79 rfl)) Via.refl e561 f569 f563 (Or.inr ⟨(wi hw 80 rfl), rfl, hnm⟩) (wi hw 2 rfl) (ty := (.object "com/example/mandoline/mandoline/Variable")) (by decide) (Rnar hcv) (Rfit rfl hcv) (g := (mkF m 40 #[vR va, vR nm, .val ds, .val fv, .val cv] [cv, (.ref va)])) rfl rfl (hb hby d35_40)
 have N582 := Fr.snoc X581 N562 gv
 have f584 := f564.other W581 (Or.inr (slot_ne (t := (.object "java/util/Map")) (t' := (.object "com/example/mandoline/mandoline/Variable")) (Or.inr (wi hw 64 rfl)) (Or.inr (wi hw 80 rfl)) (by decide) (by decide) (by decide)))
 have f586 := f566.other W581 (Or.inr (slot_ne (t := (.object "java/lang/String")) (t' := (.object "com/example/mandoline/mandoline/Variable")) (Or.inr (wi hw 74 rfl)) (Or.inr (wi hw 80 rfl)) (by decide) (by decide) (by decide)))
 have f587 := f567.other W581 (Or.inr (slot_ne (t := (.object "com/example/mandoline/mandoline/ClangNode")) (t' := (.object "com/example/mandoline/mandoline/Variable")) (Or.inr (wi hw 76 rfl)) (Or.inr (wi hw 80 rfl)) (by decide) (by decide) (by decide)))
 have f588 := f568.other W581 (Or.inr (slot_ne (t := (.object "java/lang/String")) (t' := (.object "com/example/mandoline/mandoline/Variable")) (Or.inr (wi hw 78 rfl)) (Or.inr (wi hw 80 rfl)) (by decide) (by decide) (by decide)))
 have f589 := f569.same W581
 have f590 := f570.wr W581
 have f591 := f571.other W581 (Or.inl (Ne.symm ne444))
 have f592 := f572.other W581 (Or.inl (Ne.symm ne444))
 have f593 := f573.other W581 (Or.inl (Ne.symm ne444))
 have f594 := f574.other W581 (Or.inl (Ne.symm ne444))
 have f595 := f575.other W581 (Or.inl (Ne.symm ne444))
 have f596 := f576.other W581 (Or.inl (Ne.symm ne444))
 have f597 := f577.other W581 (Or.inl (Ne.symm ne444))
 have Kp600 : Keep h0 h581 [va] := Kp580.wr W581 (Or.inl (List.mem_of_getElem? (i := 0) rfl))
 refine Rch.st (fun _ k => st581 _ k) ?_
 show Rch p e below T581 (mkF m 43 #[vR va, vR nm, .val ds, .val fv, .val cv] []) _
 exact Rch.ret0 X581 hx Bd.returns (hb hby d35_43) (by rw [e581]; exact ⟨a443, rfl, N582, Kp600, (Nat.le_trans K00.1 (Nat.le_of_eq g443.symm)), f584, f586, f588, f589, f587, f590, f591, f592, f593, f594, f595, f596, f597⟩) (by decide) (by decide)

abbrev c36 : ByteArray := jdk_30_method_1_code
theorem d36_0 : decode c36 0 = .ok (.aload_n 0, 1) := by decide +kernel
theorem d36_1 : decode c36 1 = .ok (.invokespecial 1, 3) := by decide +kernel
theorem d36_4 : decode c36 4 = .ok (.return_, 1) := by decide +kernel
theorem pn_java_lang_Record : plainName "java/lang/Record" = true := by first | (simp [plainName, overriddenIn]; done) | decide +kernel
theorem ef_rm_rec (m : MethodId) (io : Addr)  : entryFrame m #[(.ref io)] 1 = mkF m 0 #[vR io] [] := by  first | (simp [entryFrame, mkF, argsToLocals, Value.category, maxLocals]; done) | rfl
def Q_rm_rec (Z : State) (io : Addr) (h0 : Heap) (n0 : Nat) (v : Option Value) (h : Heap) (L : List Loc) : Prop := (v = none) ∧ (Fr n0 L) ∧ (h = h0)
set_option maxRecDepth 65536 in
set_option maxHeartbeats 40000000 in
theorem rm_rec (l : Launch) (Z : State) (a0 : Array Value) (hw : ∀ d ∈ tables_1, d.before a0 Z = true) (ws : List Jvm.Cond) (io : Addr) (h0 : Heap) (n0 : Nat) (Z0 : n0 ≤ h0.size)  :
    MetN l Z y_38 c36 1 none ws (Rm 1 0 0 12) #[(.ref io)] h0 (Q_rm_rec Z io h0 n0) := by
 refine MetFree.of_bodySF (plainFor_of_name pn_java_lang_Record) hisR ?_
 intro p e s m args below meth c s₁ Bd hml0 hP hK
 obtain ⟨rfl, hZ, hh⟩ := hP
 have hx := Bd.exec
 have hby := Bd.bytes
 have hml : c.maxLocals = 1 := hml0
 have hown : s.vm.findClass "java/lang/Record" = some m.cls := findClass_of_methodNamed Bd.named
 have X0 : Stand p l e (Rm 1 0 0 12) s m #[(.ref io)] below meth c s₁ [] 0 0 := Stand.of_body Bd
 have e0 : s₁.heap = h0 := by rw [← hh, Bd.state]; rfl
 have N0 := Fr.nil n0
 have K00 : Keep h0 h0 [] := Keep.refl _ _
 show Rch p e below s₁ (entryFrame m #[(.ref io)] 1) (FinP s (Q_rm_rec Z io h0 n0) 0 0)
 refine Rch.cast (ef_rm_rec m io) ?_
 show Rch p e below s₁ (mkF m 0 #[vR io] []) _
 refine w_aloadN (pc' := 1) X0 hx hby d36_0 rfl rfl rfl ?_
 obtain ⟨T601, X601, e601, st601⟩ := initO X0 hx hZ hown (wi hw 92 rfl) (wi hw 24 rfl) (wi hw 25 rfl) e0 (g := (mkF m 1 #[vR io] [(.ref io)])) rfl (by rw [hml]; rfl) rfl (hb hby d36_1) (by decide) (W := 0) (by show 2 * 0 + _ ≤ _; exact Nat.le_of_eq rfl) (by decide)
 refine Rch.st (fun _ k => st601 _ k) ?_
 show Rch p e below T601 (mkF m 4 #[vR io] []) _
 exact Rch.ret0 X601 hx Bd.returns (hb hby d36_4) (by rw [e601]; exact ⟨rfl, N0, rfl⟩) (by decide) (by decide)

abbrev c37 : ByteArray := prog_39_method_1_code
theorem d37_0 : decode c37 0 = .ok (.aload_n 0, 1) := by decide +kernel
theorem d37_1 : decode c37 1 = .ok (.invokespecial 1, 3) := by decide +kernel
theorem d37_4 : decode c37 4 = .ok (.aload_n 0, 1) := by decide +kernel
theorem d37_5 : decode c37 5 = .ok (.aload_n 1, 1) := by decide +kernel
theorem d37_6 : decode c37 6 = .ok (.putfield 7, 3) := by decide +kernel
theorem d37_9 : decode c37 9 = .ok (.aload_n 0, 1) := by decide +kernel
theorem d37_10 : decode c37 10 = .ok (.aload_n 2, 1) := by decide +kernel
theorem d37_11 : decode c37 11 = .ok (.putfield 13, 3) := by decide +kernel
theorem d37_14 : decode c37 14 = .ok (.return_, 1) := by decide +kernel
theorem pn_com_example_mandoline_mandoline_Place_Field : plainName "com/example/mandoline/mandoline/Place$Field" = true := by first | (simp [plainName, overriddenIn]; done) | decide +kernel
theorem ef_rm_fd (m : MethodId) (fd : Addr) (ky : Addr) (fs : Addr)  : entryFrame m #[(.ref fd), (.ref ky), (.ref fs)] 3 = mkF m 0 #[vR fd, vR ky, vR fs] [] := by  first | (simp [entryFrame, mkF, argsToLocals, Value.category, maxLocals]; done) | rfl
def Q_rm_fd (Z : State) (fd : Addr) (ky : Addr) (fs : Addr) (h0 : Heap) (n0 : Nat) (v : Option Value) (h : Heap) (L : List Loc) : Prop := (v = none) ∧ (Fr n0 L) ∧ (Keep h0 h [fd]) ∧ (Fld Z h fd "com/example/mandoline/mandoline/Place$Field" "key" "Ljava/lang/String;" (.ref ky)) ∧ (Fld Z h fd "com/example/mandoline/mandoline/Place$Field" "name" "Ljava/lang/String;" (.ref fs))
set_option maxRecDepth 65536 in
set_option maxHeartbeats 40000000 in
theorem rm_fd (l : Launch) (Z : State) (a0 : Array Value) (hw : ∀ d ∈ tables_1, d.before a0 Z = true) (ws : List Jvm.Cond) (fd : Addr) (ky : Addr) (fs : Addr) (h0 : Heap) (n0 : Nat) (Z0 : n0 ≤ h0.size) (f0 : Exa Z h0 fd "com/example/mandoline/mandoline/Place$Field") (f1 : Fld Z h0 fd "com/example/mandoline/mandoline/Place$Field" "key" "Ljava/lang/String;" .null) (f2 : Fld Z h0 fd "com/example/mandoline/mandoline/Place$Field" "name" "Ljava/lang/String;" .null) (ga : n0 ≤ fd) :
    MetN l Z y_39 c37 3 none ws (Rm 2 0 0 24) #[(.ref fd), (.ref ky), (.ref fs)] h0 (Q_rm_fd Z fd ky fs h0 n0) := by
 refine MetFree.of_bodySF (plainFor_of_name pn_com_example_mandoline_mandoline_Place_Field) hisR ?_
 intro p e s m args below meth c s₁ Bd hml0 hP hK
 obtain ⟨rfl, hZ, hh⟩ := hP
 have hx := Bd.exec
 have hby := Bd.bytes
 have hml : c.maxLocals = 3 := hml0
 have hown : s.vm.findClass "com/example/mandoline/mandoline/Place$Field" = some m.cls := findClass_of_methodNamed Bd.named
 have hnm := (name_of_methodNamed Bd.named Bd.method).1
 have X0 : Stand p l e (Rm 2 0 0 24) s m #[(.ref fd), (.ref ky), (.ref fs)] below meth c s₁ [] 0 0 := Stand.of_body Bd
 have e0 : s₁.heap = h0 := by rw [← hh, Bd.state]; rfl
 have N0 := Fr.nil n0
 have K00 : Keep h0 h0 [fd] := Keep.refl _ _
 show Rch p e below s₁ (entryFrame m #[(.ref fd), (.ref ky), (.ref fs)] 3) (FinP s (Q_rm_fd Z fd ky fs h0 n0) 0 0)
 refine Rch.cast (ef_rm_fd m fd ky fs) ?_
 show Rch p e below s₁ (mkF m 0 #[vR fd, vR ky, vR fs] []) _
 refine w_aloadN (pc' := 1) X0 hx hby d37_0 rfl rfl rfl ?_
 obtain ⟨_, _, ⟨T602, L602, k602, n602⟩, -, X602, ⟨Lc602, hQ602, l602, y602, z602⟩, st602⟩ := X0.specialBack hx (y := y_38) rfl hown (mvT hZ (wi hw 87 rfl)) (mvT hZ (wi hw 88 rfl)) (mvT hZ (wi hw 91 rfl)) (by decide) (backOf (W := 0) (rm_rec l Z a0 hw [] fd h0 n0 Z0 ) hZ (wi hw 91 rfl) (wi hw 90 rfl) (by decide) (by decide)) (g := (mkF m 1 #[vR fd, vR ky, vR fs] [(.ref fd)])) rfl (by rw [hml]; rfl) (Steps.refl _) (a := fd) (argsL := []) (rest := []) (lenOf pd___V rfl) rfl (by show 2 * 0 + _ ≤ _; exact Nat.le_of_eq rfl) (hb hby d37_1) (fun _ _ => ⟨rfl, e0, (by decide : 0 + 0 ≤ _), (by decide : 0 + 0 ≤ _)⟩)
 dsimp only [Pt.U, Pt.locs, Pt.cells, Pt.slots] at X602 l602 y602 z602 st602 hQ602
 subst l602 y602 z602
 obtain ⟨rfl, NQ602, K602⟩ := hQ602
 have N603 := Fr.app N0 NQ602
 refine Rch.st (fun _ k => st602.trans k) ?_
 show Rch p e below T602 (mkF m 4 #[vR fd, vR ky, vR fs] []) _
 refine w_aloadN (pc' := 5) X602 hx hby d37_4 rfl rfl rfl ?_
 refine w_aloadN (pc' := 6) X602 hx hby d37_5 rfl rfl rfl ?_
 obtain ⟨T604, h604, X604, e604, W604, st604⟩ := putF X602 hx hZ hown (host := "") (Or.inl (wi hw 93 rfl)) Via.refl K602 f1 f0 (Or.inr ⟨(wi hw 94 rfl), rfl, hnm⟩) (wi hw 82 rfl) (ty := (.object "java/lang/String")) (by decide) rfl rfl (g := (mkF m 6 #[vR fd, vR ky, vR fs] [(.ref ky), (.ref fd)])) rfl rfl (hb hby d37_6)
 have N605 := Fr.snoc X604 N603 ga
 have f606 := f0.wr W604
 have f607 := f1.same W604
 have f608 := f2.other W604 (Or.inr (slot_ne (t := (.object "java/lang/String")) (t' := (.object "java/lang/String")) (Or.inr (wi hw 96 rfl)) (Or.inr (wi hw 94 rfl)) (by decide) (by decide) (by decide)))
 have Kp610 : Keep h0 h604 [fd] := K00.wr W604 (Or.inl (List.mem_of_getElem? (i := 0) rfl))
 refine Rch.st (fun _ k => st604 _ k) ?_
 show Rch p e below T604 (mkF m 9 #[vR fd, vR ky, vR fs] []) _
 refine w_aloadN (pc' := 10) X604 hx hby d37_9 rfl rfl rfl ?_
 refine w_aloadN (pc' := 11) X604 hx hby d37_10 rfl rfl rfl ?_
 obtain ⟨T611, h611, X611, e611, W611, st611⟩ := putF X604 hx hZ hown (host := "") (Or.inl (wi hw 95 rfl)) Via.refl e604 f608 f606 (Or.inr ⟨(wi hw 96 rfl), rfl, hnm⟩) (wi hw 82 rfl) (ty := (.object "java/lang/String")) (by decide) rfl rfl (g := (mkF m 11 #[vR fd, vR ky, vR fs] [(.ref fs), (.ref fd)])) rfl rfl (hb hby d37_11)
 have N612 := Fr.snoc X611 N605 ga
 have f614 := f607.other W611 (Or.inr (slot_ne (t := (.object "java/lang/String")) (t' := (.object "java/lang/String")) (Or.inr (wi hw 94 rfl)) (Or.inr (wi hw 96 rfl)) (by decide) (by decide) (by decide)))
 have f615 := f608.same W611
 have Kp617 : Keep h0 h611 [fd] := Kp610.wr W611 (Or.inl (List.mem_of_getElem? (i := 0) rfl))
 refine Rch.st (fun _ k => st611 _ k) ?_
 show Rch p e below T611 (mkF m 14 #[vR fd, vR ky, vR fs] []) _
 exact Rch.ret0 X611 hx Bd.returns (hb hby d37_14) (by rw [e611]; exact ⟨rfl, N612, Kp617, f614, f615⟩) (by decide) (by decide)

abbrev c38 : ByteArray := prog_39_method_5_code
theorem d38_0 : decode c38 0 = .ok (.aload_n 0, 1) := by decide +kernel
theorem d38_1 : decode c38 1 = .ok (.getfield 7, 3) := by decide +kernel
theorem d38_4 : decode c38 4 = .ok (.areturn, 1) := by decide +kernel
theorem ef_rm_ky (m : MethodId) (fd : Addr) (ky : Addr)  : entryFrame m #[(.ref fd)] 1 = mkF m 0 #[vR fd] [] := by  first | (simp [entryFrame, mkF, argsToLocals, Value.category, maxLocals]; done) | rfl
def Q_rm_ky (Z : State) (fd : Addr) (ky : Addr) (h0 : Heap) (n0 : Nat) (v : Option Value) (h : Heap) (L : List Loc) : Prop := (v = some (.ref ky)) ∧ (Fr n0 L) ∧ (h = h0)
set_option maxRecDepth 65536 in
set_option maxHeartbeats 40000000 in
theorem rm_ky (l : Launch) (Z : State) (a0 : Array Value) (hw : ∀ d ∈ tables_1, d.before a0 Z = true) (ws : List Jvm.Cond) (fd : Addr) (ky : Addr) (h0 : Heap) (n0 : Nat) (Z0 : n0 ≤ h0.size) (f0 : Fld Z h0 fd "com/example/mandoline/mandoline/Place$Field" "key" "Ljava/lang/String;" (.ref ky)) :
    MetN l Z y_40 c38 1 (some (.object "java/lang/String")) ws (Rm 0 0 0 0) #[(.ref fd)] h0 (Q_rm_ky Z fd ky h0 n0) := by
 refine MetFree.of_bodySF (plainFor_of_name pn_com_example_mandoline_mandoline_Place_Field) hisR ?_
 intro p e s m args below meth c s₁ Bd hml0 hP hK
 obtain ⟨rfl, hZ, hh⟩ := hP
 have hx := Bd.exec
 have hby := Bd.bytes
 have hml : c.maxLocals = 1 := hml0
 have hown : s.vm.findClass "com/example/mandoline/mandoline/Place$Field" = some m.cls := findClass_of_methodNamed Bd.named
 have X0 : Stand p l e (Rm 0 0 0 0) s m #[(.ref fd)] below meth c s₁ [] 0 0 := Stand.of_body Bd
 have e0 : s₁.heap = h0 := by rw [← hh, Bd.state]; rfl
 have N0 := Fr.nil n0
 have K00 : Keep h0 h0 [] := Keep.refl _ _
 show Rch p e below s₁ (entryFrame m #[(.ref fd)] 1) (FinP s (Q_rm_ky Z fd ky h0 n0) 0 0)
 refine Rch.cast (ef_rm_ky m fd ky) ?_
 show Rch p e below s₁ (mkF m 0 #[vR fd] []) _
 refine w_aloadN (pc' := 1) X0 hx hby d38_0 rfl rfl rfl ?_
 obtain ⟨T618, X618, e618, st618⟩ := getF X0 hx hZ hown (host := "") (Or.inl (wi hw 93 rfl)) Via.refl e0 f0 (g := (mkF m 1 #[vR fd] [(.ref fd)])) rfl rfl (hb hby d38_1)
 refine Rch.st (fun _ k => st618 _ k) ?_
 show Rch p e below T618 (mkF m 4 #[vR fd] [(.ref ky)]) _
 exact Rch.retV X618 hx Bd.returns rfl (Or.inr (Or.inr (Or.inr (Or.inr ⟨rfl, rfl, rfl⟩)))) (hb hby d38_4) (by rw [e618]; exact ⟨rfl, N0, rfl⟩) (by decide) (by decide)

abbrev c39 : ByteArray := prog_39_method_6_code
theorem d39_0 : decode c39 0 = .ok (.aload_n 0, 1) := by decide +kernel
theorem d39_1 : decode c39 1 = .ok (.getfield 13, 3) := by decide +kernel
theorem d39_4 : decode c39 4 = .ok (.areturn, 1) := by decide +kernel
theorem ef_rm_nm (m : MethodId) (fd : Addr) (fs : Addr)  : entryFrame m #[(.ref fd)] 1 = mkF m 0 #[vR fd] [] := by  first | (simp [entryFrame, mkF, argsToLocals, Value.category, maxLocals]; done) | rfl
def Q_rm_nm (Z : State) (fd : Addr) (fs : Addr) (h0 : Heap) (n0 : Nat) (v : Option Value) (h : Heap) (L : List Loc) : Prop := (v = some (.ref fs)) ∧ (Fr n0 L) ∧ (h = h0)
set_option maxRecDepth 65536 in
set_option maxHeartbeats 40000000 in
theorem rm_nm (l : Launch) (Z : State) (a0 : Array Value) (hw : ∀ d ∈ tables_1, d.before a0 Z = true) (ws : List Jvm.Cond) (fd : Addr) (fs : Addr) (h0 : Heap) (n0 : Nat) (Z0 : n0 ≤ h0.size) (f0 : Fld Z h0 fd "com/example/mandoline/mandoline/Place$Field" "name" "Ljava/lang/String;" (.ref fs)) :
    MetN l Z y_41 c39 1 (some (.object "java/lang/String")) ws (Rm 0 0 0 0) #[(.ref fd)] h0 (Q_rm_nm Z fd fs h0 n0) := by
 refine MetFree.of_bodySF (plainFor_of_name pn_com_example_mandoline_mandoline_Place_Field) hisR ?_
 intro p e s m args below meth c s₁ Bd hml0 hP hK
 obtain ⟨rfl, hZ, hh⟩ := hP
 have hx := Bd.exec
 have hby := Bd.bytes
 have hml : c.maxLocals = 1 := hml0
 have hown : s.vm.findClass "com/example/mandoline/mandoline/Place$Field" = some m.cls := findClass_of_methodNamed Bd.named
 have X0 : Stand p l e (Rm 0 0 0 0) s m #[(.ref fd)] below meth c s₁ [] 0 0 := Stand.of_body Bd
 have e0 : s₁.heap = h0 := by rw [← hh, Bd.state]; rfl
 have N0 := Fr.nil n0
 have K00 : Keep h0 h0 [] := Keep.refl _ _
 show Rch p e below s₁ (entryFrame m #[(.ref fd)] 1) (FinP s (Q_rm_nm Z fd fs h0 n0) 0 0)
 refine Rch.cast (ef_rm_nm m fd fs) ?_
 show Rch p e below s₁ (mkF m 0 #[vR fd] []) _
 refine w_aloadN (pc' := 1) X0 hx hby d39_0 rfl rfl rfl ?_
 obtain ⟨T619, X619, e619, st619⟩ := getF X0 hx hZ hown (host := "") (Or.inl (wi hw 95 rfl)) Via.refl e0 f0 (g := (mkF m 1 #[vR fd] [(.ref fd)])) rfl rfl (hb hby d39_1)
 refine Rch.st (fun _ k => st619 _ k) ?_
 show Rch p e below T619 (mkF m 4 #[vR fd] [(.ref fs)]) _
 exact Rch.retV X619 hx Bd.returns rfl (Or.inr (Or.inr (Or.inr (Or.inr ⟨rfl, rfl, rfl⟩)))) (hb hby d39_4) (by rw [e619]; exact ⟨rfl, N0, rfl⟩) (by decide) (by decide)

abbrev c40 : ByteArray := jdk_42_method_55_code
theorem d40_0 : decode c40 0 = .ok (.aload_n 0, 1) := by decide +kernel
theorem d40_1 : decode c40 1 = .ok (.getfield 9, 3) := by decide +kernel
theorem d40_4 : decode c40 4 = .ok (.arraylength, 1) := by decide +kernel
theorem d40_5 : decode c40 5 = .ok (.ifCond .ne 7, 3) := by decide +kernel
theorem d40_12 : decode c40 12 = .ok (.iconst 0, 1) := by decide +kernel
theorem d40_13 : decode c40 13 = .ok (.ireturn, 1) := by decide +kernel
theorem ef_rm_ie1 (m : MethodId) (aa : Addr) (bb : Addr) (kb : ClassId) (vs : List Value) (dd : Value)  : entryFrame m #[(.ref aa)] 1 = mkF m 0 #[vR aa] [] := by  first | (simp [entryFrame, mkF, argsToLocals, Value.category, maxLocals]; done) | rfl
def Q_rm_ie1 (Z : State) (aa : Addr) (bb : Addr) (kb : ClassId) (vs : List Value) (dd : Value) (h0 : Heap) (n0 : Nat) (v : Option Value) (h : Heap) (L : List Loc) : Prop := (v = some (.int (0 : Int32))) ∧ (Fr n0 L) ∧ (h = h0)
set_option maxRecDepth 65536 in
set_option maxHeartbeats 40000000 in
theorem rm_ie1 (l : Launch) (Z : State) (a0 : Array Value) (hw : ∀ d ∈ tables_1, d.before a0 Z = true) (ws : List Jvm.Cond) (aa : Addr) (bb : Addr) (kb : ClassId) (vs : List Value) (dd : Value) (h0 : Heap) (n0 : Nat) (Z0 : n0 ≤ h0.size) (f0 : Fld Z h0 aa "java/lang/String" "value" "[B" (.ref bb)) (f1 : Arv Z h0 bb kb .byte (1 : Int32) vs dd) :
    MetN l Z y_42 c40 1 (some .boolean) ws (Rm 0 0 0 0) #[(.ref aa)] h0 (Q_rm_ie1 Z aa bb kb vs dd h0 n0) := by
 refine MetFree.of_bodySF (plainFor_of_name pn_java_lang_String) hisR ?_
 intro p e s m args below meth c s₁ Bd hml0 hP hK
 obtain ⟨rfl, hZ, hh⟩ := hP
 have hx := Bd.exec
 have hby := Bd.bytes
 have hml : c.maxLocals = 1 := hml0
 have hown : s.vm.findClass "java/lang/String" = some m.cls := findClass_of_methodNamed Bd.named
 have X0 : Stand p l e (Rm 0 0 0 0) s m #[(.ref aa)] below meth c s₁ [] 0 0 := Stand.of_body Bd
 have e0 : s₁.heap = h0 := by rw [← hh, Bd.state]; rfl
 have N0 := Fr.nil n0
 have K00 : Keep h0 h0 [] := Keep.refl _ _
 show Rch p e below s₁ (entryFrame m #[(.ref aa)] 1) (FinP s (Q_rm_ie1 Z aa bb kb vs dd h0 n0) 0 0)
 refine Rch.cast (ef_rm_ie1 m aa bb kb vs dd) ?_
 show Rch p e below s₁ (mkF m 0 #[vR aa] []) _
 refine w_aloadN (pc' := 1) X0 hx hby d40_0 rfl rfl rfl ?_
 obtain ⟨T620, X620, e620, st620⟩ := getF X0 hx hZ hown (host := "") (Or.inl (wi hw 26 rfl)) Via.refl e0 f0 (g := (mkF m 1 #[vR aa] [(.ref aa)])) rfl rfl (hb hby d40_1)
 refine Rch.st (fun _ k => st620 _ k) ?_
 show Rch p e below T620 (mkF m 4 #[vR aa] [(.ref bb)]) _
 refine Rch.st (fun _ k => own_alen X620 hx hZ e620 f1 rfl rfl (hb hby d40_4) k) ?_
 show Rch p e below T620 (mkF m 5 #[vR aa] [(.int 1)]) _
 refine w_ifYes (pc' := 12) X620 hx hby d40_5 (XT.i0_ne_t (by decide)) (by decide) ?_
 refine w_iconst (pc' := 13) (v := 0) X620 hx hby d40_12 rfl rfl ?_
 exact Rch.retV X620 hx Bd.returns rfl (Or.inl ⟨rfl, by simp, _, rfl⟩) (hb hby d40_13) (by rw [e620]; exact ⟨rfl, N0, rfl⟩) (by decide) (by decide)

abbrev c41 : ByteArray := jdk_43_method_21_code
theorem d41_0 : decode c41 0 = .ok (.aload_n 0, 1) := by decide +kernel
theorem d41_1 : decode c41 1 = .ok (.arraylength, 1) := by decide +kernel
theorem d41_2 : decode c41 2 = .ok (.lookupswitch 40 #[(0, 26), (1, 30)], 26) := by decide +kernel
theorem d41_32 : decode c41 32 = .ok (.aload_n 0, 1) := by decide +kernel
theorem d41_33 : decode c41 33 = .ok (.iconst 0, 1) := by decide +kernel
theorem d41_34 : decode c41 34 = .ok (.baload, 1) := by decide +kernel
theorem d41_35 : decode c41 35 = .ok (.sipush 255, 3) := by decide +kernel
theorem d41_38 : decode c41 38 = .ok (.iand, 1) := by decide +kernel
theorem d41_39 : decode c41 39 = .ok (.goto 12, 3) := by decide +kernel
theorem d41_51 : decode c41 51 = .ok (.ireturn, 1) := by decide +kernel
theorem ef_rm_lhc (m : MethodId) (kb : Addr) (kkb : ClassId) (b0 : Int32)  : entryFrame m #[(.ref kb)] 1 = mkF m 0 #[vR kb] [] := by  first | (simp [entryFrame, mkF, argsToLocals, Value.category, maxLocals]; done) | rfl
def Q_rm_lhc (Z : State) (kb : Addr) (kkb : ClassId) (b0 : Int32) (h0 : Heap) (n0 : Nat) (v : Option Value) (h : Heap) (L : List Loc) : Prop := ∃ (r : Int32), (v = some (.int r)) ∧ (Fr n0 L) ∧ (h = h0)
set_option maxRecDepth 65536 in
set_option maxHeartbeats 40000000 in
theorem rm_lhc (l : Launch) (Z : State) (a0 : Array Value) (hw : ∀ d ∈ tables_1, d.before a0 Z = true) (ws : List Jvm.Cond) (kb : Addr) (kkb : ClassId) (b0 : Int32) (h0 : Heap) (n0 : Nat) (Z0 : n0 ≤ h0.size) (f0 : Arv Z h0 kb kkb .byte (1 : Int32) [(.int b0)] (.int (0 : Int32))) :
    MetN l Z y_43 c41 1 (some .int) ws (Rm 0 0 0 0) #[(.ref kb)] h0 (Q_rm_lhc Z kb kkb b0 h0 n0) := by
 refine MetFree.of_bodySF (plainFor_of_name pn_java_lang_StringLatin1) hisR ?_
 intro p e s m args below meth c s₁ Bd hml0 hP hK
 obtain ⟨rfl, hZ, hh⟩ := hP
 have hx := Bd.exec
 have hby := Bd.bytes
 have hml : c.maxLocals = 1 := hml0
 have hown : s.vm.findClass "java/lang/StringLatin1" = some m.cls := findClass_of_methodNamed Bd.named
 have X0 : Stand p l e (Rm 0 0 0 0) s m #[(.ref kb)] below meth c s₁ [] 0 0 := Stand.of_body Bd
 have e0 : s₁.heap = h0 := by rw [← hh, Bd.state]; rfl
 have N0 := Fr.nil n0
 have K00 : Keep h0 h0 [] := Keep.refl _ _
 show Rch p e below s₁ (entryFrame m #[(.ref kb)] 1) (FinP s (Q_rm_lhc Z kb kkb b0 h0 n0) 0 0)
 refine Rch.cast (ef_rm_lhc m kb kkb b0) ?_
 show Rch p e below s₁ (mkF m 0 #[vR kb] []) _
 refine w_aloadN (pc' := 1) X0 hx hby d41_0 rfl rfl rfl ?_
 refine Rch.st (fun _ k => own_alen X0 hx hZ e0 f0 rfl rfl (hb hby d41_1) k) ?_
 show Rch p e below s₁ (mkF m 2 #[vR kb] [(.int 1)]) _
 refine Rch.st (fun _ k => own_lswH (g := (mkF m 2 #[vR kb] [(.int 1)])) X0 hx rfl (pc0 := 2) (pc' := 32) rfl rfl (hb hby d41_2) (by decide) (a := 1) (off := 30) (by decide) (by decide) (by decide) k) ?_
 show Rch p e below s₁ (mkF m 32 #[vR kb] []) _
 refine w_aloadN (pc' := 33) X0 hx hby d41_32 rfl rfl rfl ?_
 refine w_iconst (pc' := 34) (v := 0) X0 hx hby d41_33 rfl rfl ?_
 refine Rch.st (fun _ k => own_ldB X0 hx hZ e0 f0 (j := (0 : Int32)) ⟨by decide, by decide⟩ (by rfl) rfl rfl (hb hby d41_34) k) ?_
 show Rch p e below s₁ (mkF m 35 #[vR kb] [(.int b0)]) _
 refine w_sipush (pc' := 38) (v := 255) X0 hx hby d41_35 rfl rfl ?_
 refine w_iand (pc' := 39) X0 hx hby d41_38 rfl ?_
 refine w_goto (pc' := 51) X0 hx hby d41_39 (by decide) ?_
 exact Rch.retV X0 hx Bd.returns rfl (Or.inl ⟨rfl, by simp, _, rfl⟩) (hb hby d41_51) (by rw [e0]; exact ⟨(b0 &&& (255 : Int32)), rfl, N0, rfl⟩) (by decide) (by decide)

abbrev c42 : ByteArray := jdk_42_method_78_code
theorem d42_0 : decode c42 0 = .ok (.aload_n 0, 1) := by decide +kernel
theorem d42_1 : decode c42 1 = .ok (.getfield 19, 3) := by decide +kernel
theorem d42_4 : decode c42 4 = .ok (.istore_n 1, 1) := by decide +kernel
theorem d42_5 : decode c42 5 = .ok (.iload_n 1, 1) := by decide +kernel
theorem d42_6 : decode c42 6 = .ok (.ifCond .ne 52, 3) := by decide +kernel
theorem d42_9 : decode c42 9 = .ok (.aload_n 0, 1) := by decide +kernel
theorem d42_10 : decode c42 10 = .ok (.getfield 23, 3) := by decide +kernel
theorem d42_13 : decode c42 13 = .ok (.ifCond .ne 45, 3) := by decide +kernel
theorem d42_16 : decode c42 16 = .ok (.aload_n 0, 1) := by decide +kernel
theorem d42_17 : decode c42 17 = .ok (.invokevirtual 492, 3) := by decide +kernel
theorem d42_20 : decode c42 20 = .ok (.ifCond .eq 13, 3) := by decide +kernel
theorem d42_23 : decode c42 23 = .ok (.aload_n 0, 1) := by decide +kernel
theorem d42_24 : decode c42 24 = .ok (.getfield 9, 3) := by decide +kernel
theorem d42_27 : decode c42 27 = .ok (.invokestatic 628, 3) := by decide +kernel
theorem d42_30 : decode c42 30 = .ok (.goto 10, 3) := by decide +kernel
theorem d42_40 : decode c42 40 = .ok (.istore_n 1, 1) := by decide +kernel
theorem d42_41 : decode c42 41 = .ok (.iload_n 1, 1) := by decide +kernel
theorem d42_42 : decode c42 42 = .ok (.ifCond .ne 11, 3) := by decide +kernel
theorem d42_45 : decode c42 45 = .ok (.aload_n 0, 1) := by decide +kernel
theorem d42_46 : decode c42 46 = .ok (.iconst 1, 1) := by decide +kernel
theorem d42_47 : decode c42 47 = .ok (.putfield 23, 3) := by decide +kernel
theorem d42_50 : decode c42 50 = .ok (.goto 8, 3) := by decide +kernel
theorem d42_53 : decode c42 53 = .ok (.aload_n 0, 1) := by decide +kernel
theorem d42_54 : decode c42 54 = .ok (.iload_n 1, 1) := by decide +kernel
theorem d42_55 : decode c42 55 = .ok (.putfield 19, 3) := by decide +kernel
theorem d42_58 : decode c42 58 = .ok (.iload_n 1, 1) := by decide +kernel
theorem d42_59 : decode c42 59 = .ok (.ireturn, 1) := by decide +kernel
theorem ef_rm_hc (m : MethodId) (G1 : Int32) (ky : Addr) (kb : Addr) (kkb : ClassId) (b0 : Int32) (hv : Int32) (hz : Int32)  : entryFrame m #[(.ref ky)] 2 = mkF m 0 #[vR ky, U] [] := by  first | (simp [entryFrame, mkF, argsToLocals, Value.category, maxLocals]; done) | rfl
def Q_rm_hc (Z : State) (G1 : Int32) (ky : Addr) (kb : Addr) (kkb : ClassId) (b0 : Int32) (hv : Int32) (hz : Int32) (h0 : Heap) (n0 : Nat) (v : Option Value) (h : Heap) (L : List Loc) : Prop := ∃ (r : Int32) (x2 : Int32) (y2 : Int32), (v = some (.int r)) ∧ (Fr n0 L) ∧ (Keep h0 h [ky]) ∧ (∀ a v, Fld Z h0 a "java/lang/String" "coder" "B" v → Fld Z h a "java/lang/String" "coder" "B" v) ∧ (∀ a v, Fld Z h0 a "java/lang/String" "value" "[B" v → Fld Z h a "java/lang/String" "value" "[B" v) ∧ (Fld Z h ky "java/lang/String" "coder" "B" (.int (0 : Int32))) ∧ (Fld Z h ky "java/lang/String" "value" "[B" (.ref kb)) ∧ (Fld Z h ky "java/lang/String" "hash" "I" (.int x2)) ∧ (Fld Z h ky "java/lang/String" "hashIsZero" "Z" (.int y2))
theorem pd___B_I : parseMethodDescriptor "([B)I" = some ⟨[(.array .byte)], (some .int)⟩ := by decide +kernel
set_option maxRecDepth 65536 in
set_option maxHeartbeats 40000000 in
theorem rm_hc (l : Launch) (Z : State) (a0 : Array Value) (hw : ∀ d ∈ tables_1, d.before a0 Z = true) (ws : List Jvm.Cond) (G1 : Int32) (ky : Addr) (kb : Addr) (kkb : ClassId) (b0 : Int32) (hv : Int32) (hz : Int32) (h0 : Heap) (n0 : Nat) (Z0 : n0 ≤ h0.size) (O2 : Sta Z Z.heap "java/lang/String" "COMPACT_STRINGS" "Z" (.int G1)) (P5 : ¬ G1 = 0) (f2 : Exa Z h0 ky "java/lang/String") (f3 : Fld Z h0 ky "java/lang/String" "coder" "B" (.int (0 : Int32))) (f4 : Fld Z h0 ky "java/lang/String" "value" "[B" (.ref kb)) (f5 : Fld Z h0 ky "java/lang/String" "hash" "I" (.int hv)) (f6 : Fld Z h0 ky "java/lang/String" "hashIsZero" "Z" (.int hz)) (f7 : Arv Z h0 kb kkb .byte (1 : Int32) [(.int b0)] (.int (0 : Int32))) (gk : n0 ≤ ky) (Old0 : OldL Z n0 h0) :
    MetN l Z y_44 c42 2 (some .int) ws (Rm 1 0 0 12) #[(.ref ky)] h0 (Q_rm_hc Z G1 ky kb kkb b0 hv hz h0 n0) := by
 refine MetFree.of_bodySF (plainFor_of_name pn_java_lang_String) hisR ?_
 intro p e s m args below meth c s₁ Bd hml0 hP hK
 obtain ⟨rfl, hZ, hh⟩ := hP
 have hx := Bd.exec
 have hby := Bd.bytes
 have hml : c.maxLocals = 2 := hml0
 have hown : s.vm.findClass "java/lang/String" = some m.cls := findClass_of_methodNamed Bd.named
 have X0 : Stand p l e (Rm 1 0 0 12) s m #[(.ref ky)] below meth c s₁ [] 0 0 := Stand.of_body Bd
 have e0 : s₁.heap = h0 := by rw [← hh, Bd.state]; rfl
 have N0 := Fr.nil n0
 have K00 : Keep h0 h0 [ky] := Keep.refl _ _
 show Rch p e below s₁ (entryFrame m #[(.ref ky)] 2) (FinP s (Q_rm_hc Z G1 ky kb kkb b0 hv hz h0 n0) 0 0)
 refine Rch.cast (ef_rm_hc m G1 ky kb kkb b0 hv hz) ?_
 show Rch p e below s₁ (mkF m 0 #[vR ky, U] []) _
 refine w_aloadN (pc' := 1) X0 hx hby d42_0 rfl rfl rfl ?_
 obtain ⟨T621, X621, e621, st621⟩ := getF X0 hx hZ hown (host := "") (Or.inl (wi hw 129 rfl)) Via.refl e0 f5 (g := (mkF m 1 #[vR ky, U] [(.ref ky)])) rfl rfl (hb hby d42_1)
 refine Rch.st (fun _ k => st621 _ k) ?_
 show Rch p e below T621 (mkF m 4 #[vR ky, U] [(.int hv)]) _
 refine w_istoreN (pc' := 5) (l' := #[vR ky, vI hv]) X621 hx hby d42_4 rfl rfl ?_
 refine w_iloadN (pc' := 6) X621 hx hby d42_5 rfl rfl ?_
 by_cases c622 : hv = 0
 ·skip
  refine w_ifNo (pc' := 9) X621 hx hby d42_6 (XT.i0_ne_f (c622)) rfl ?_
  refine w_aloadN (pc' := 10) X621 hx hby d42_9 rfl rfl rfl ?_
  obtain ⟨T623, X623, e623, st623⟩ := getF X621 hx hZ hown (host := "") (Or.inl (wi hw 131 rfl)) Via.refl e621 f6 (g := (mkF m 10 #[vR ky, vI hv] [(.ref ky)])) rfl rfl (hb hby d42_10)
  refine Rch.st (fun _ k => st623 _ k) ?_
  show Rch p e below T623 (mkF m 13 #[vR ky, vI hv] [(.int hz)]) _
  by_cases c624 : hz = 0
  ·skip
   refine w_ifNo (pc' := 16) X623 hx hby d42_13 (XT.i0_ne_f (c624)) rfl ?_
   refine w_aloadN (pc' := 17) X623 hx hby d42_16 rfl rfl rfl ?_
   obtain ⟨cq625, kq625, q625a, q625b, q625c⟩ := isOf hZ e623 f2
   obtain ⟨_, _, ⟨T625, L625, k625, n625⟩, -, X625, ⟨Lc625, hQ625, l625, y625, z625⟩, st625⟩ := X623.virtualBack hx (y := y_5) (z := y_5) hown (mvT hZ (wi hw 133 rfl)) (mvT hZ (wi hw 134 rfl)) (notFace_of_selects (args := #[]) (mvT hZ (wi hw 136 rfl))) (mvT hZ (wi hw 136 rfl)) (mvT hZ (wi hw 135 rfl)) (by decide) (backOf (W := 0) (rm_isl l Z a0 hw [] G1 ky h0 n0 Z0 (O2) (P5) f3 Old0) hZ (wi hw 137 rfl) (wi hw 6 rfl) (by decide) (by decide)) q625a q625c (g := (mkF m 17 #[vR ky, vI hv] [(.ref ky)])) rfl (by rw [hml]; rfl) (Steps.refl _) (argsL := []) (rest := []) (lenOf pd___Z rfl) rfl (by show 2 * 0 + _ ≤ _; exact Nat.le_of_eq rfl) (hb hby d42_17) (fun _ _ => ⟨rfl, e623, (by decide : 0 + 0 ≤ _), (by decide : 0 + 0 ≤ _)⟩)
   dsimp only [Pt.U, Pt.locs, Pt.cells, Pt.slots] at X625 l625 y625 z625 st625 hQ625
   subst l625 y625 z625
   obtain ⟨rfl, NQ625, K625⟩ := hQ625
   have N626 := Fr.app N0 NQ625
   refine Rch.st (fun _ k => st625.trans k) ?_
   show Rch p e below T625 (mkF m 20 #[vR ky, vI hv] [(.int 1)]) _
   refine w_ifNo (pc' := 23) X625 hx hby d42_20 (XT.i0_eq_f (by decide)) rfl ?_
   refine w_aloadN (pc' := 24) X625 hx hby d42_23 rfl rfl rfl ?_
   obtain ⟨T627, X627, e627, st627⟩ := getF X625 hx hZ hown (host := "") (Or.inl (wi hw 26 rfl)) Via.refl K625 f4 (g := (mkF m 24 #[vR ky, vI hv] [(.ref ky)])) rfl rfl (hb hby d42_24)
   refine Rch.st (fun _ k => st627 _ k) ?_
   show Rch p e below T627 (mkF m 27 #[vR ky, vI hv] [(.ref kb)]) _
   obtain ⟨_, _, ⟨T628, L628, k628, n628⟩, -, X628, ⟨Lc628, hQ628, l628, y628, z628⟩, st628⟩ := Jvm.LawKit.callS X627 hx (y := y_43) hown (mvT hZ (wi hw 138 rfl)) (mvT hZ (wi hw 139 rfl)) (mvT hZ (wi hw 11 rfl)) (mvT hZ (wi hw 140 rfl)) (by decide) (backOf (W := 0) (rm_lhc l Z a0 hw [] kb kkb b0 h0 n0 Z0 f7) hZ (wi hw 140 rfl) (wi hw 11 rfl) (by decide) (by decide)) (g := (mkF m 27 #[vR ky, vI hv] [(.ref kb)])) rfl (by rw [hml]; rfl) (argsL := [(.ref kb)]) (rest := []) (lenOf pd___B_I rfl) rfl (by show 2 * 0 + _ ≤ _; exact Nat.le_of_eq rfl) (hb hby d42_27) (fun _ _ => ⟨rfl, e627, (by decide : 0 + 0 ≤ _), (by decide : 0 + 0 ≤ _)⟩)
   dsimp only [Pt.U, Pt.locs, Pt.cells, Pt.slots] at X628 l628 y628 z628 st628 hQ628
   subst l628 y628 z628
   obtain ⟨r_628, rfl, NQ628, K628⟩ := hQ628
   have N629 := Fr.app N626 NQ628
   refine Rch.st (fun _ k => st628 _ k) ?_
   show Rch p e below T628 (mkF m 30 #[vR ky, vI hv] [(.int r_628)]) _
   refine w_goto (pc' := 40) X628 hx hby d42_30 (by decide) ?_
   refine w_istoreN (pc' := 41) (l' := #[vR ky, vI r_628]) X628 hx hby d42_40 rfl rfl ?_
   refine w_iloadN (pc' := 42) X628 hx hby d42_41 rfl rfl ?_
   by_cases c630 : r_628 = 0
   ·skip
    refine w_ifNo (pc' := 45) X628 hx hby d42_42 (XT.i0_ne_f (c630)) rfl ?_
    refine w_aloadN (pc' := 46) X628 hx hby d42_45 rfl rfl rfl ?_
    refine w_iconst (pc' := 47) (v := 1) X628 hx hby d42_46 rfl rfl ?_
    obtain ⟨T631, h631, X631, e631, W631, st631⟩ := putF X628 hx hZ hown (host := "") (Or.inl (wi hw 131 rfl)) Via.refl K628 f6 f2 (Or.inl (wi hw 132 rfl)) (wi hw 14 rfl) (ty := .boolean) (by decide) rfl rfl (g := (mkF m 47 #[vR ky, vI r_628] [(.int 1), (.ref ky)])) rfl rfl (hb hby d42_47)
    have N632 := Fr.snoc X631 N629 gk
    have f634 := f3.other W631 (Or.inr (slot_ne (t := .byte) (t' := .boolean) (Or.inr (wi hw 29 rfl)) (Or.inl (wi hw 132 rfl)) (by decide) (by decide) (by decide)))
    have f635 := f4.other W631 (Or.inr (slot_ne (t := (.array .byte)) (t' := .boolean) (Or.inr (wi hw 27 rfl)) (Or.inl (wi hw 132 rfl)) (by decide) (by decide) (by decide)))
    have f636 := f5.other W631 (Or.inr (slot_ne (t := .int) (t' := .boolean) (Or.inl (wi hw 130 rfl)) (Or.inl (wi hw 132 rfl)) (by decide) (by decide) (by decide)))
    have f637 := f6.same W631
    have Kp642 : Keep h0 h631 [ky] := K00.wr W631 (Or.inl (List.mem_of_getElem? (i := 0) rfl))
    refine Rch.st (fun _ k => st631 _ k) ?_
    show Rch p e below T631 (mkF m 50 #[vR ky, vI r_628] []) _
    refine w_goto (pc' := 58) X631 hx hby d42_50 (by decide) ?_
    refine w_iloadN (pc' := 59) X631 hx hby d42_58 rfl rfl ?_
    exact Rch.retV X631 hx Bd.returns rfl (Or.inl ⟨rfl, by simp, _, rfl⟩) (hb hby d42_59) (by rw [e631]; exact ⟨r_628, hv, (1 : Int32), rfl, N632, Kp642, fun _ _ F => F.other W631 (Or.inr (slot_ne (t := .byte) (t' := .boolean) (Or.inr (wi hw 29 rfl)) (Or.inl (wi hw 132 rfl)) (by decide) (by decide) (by decide))), fun _ _ F => F.other W631 (Or.inr (slot_ne (t := (.array .byte)) (t' := .boolean) (Or.inr (wi hw 27 rfl)) (Or.inl (wi hw 132 rfl)) (by decide) (by decide) (by decide))), f634, f635, f636, f637⟩) (by decide) (by decide)
   ·skip
    refine w_ifYes (pc' := 53) X628 hx hby d42_42 (XT.i0_ne_t (c630)) (by decide) ?_
    refine w_aloadN (pc' := 54) X628 hx hby d42_53 rfl rfl rfl ?_
    refine w_iloadN (pc' := 55) X628 hx hby d42_54 rfl rfl ?_
    obtain ⟨T643, h643, X643, e643, W643, st643⟩ := putF X628 hx hZ hown (host := "") (Or.inl (wi hw 129 rfl)) Via.refl K628 f5 f2 (Or.inl (wi hw 130 rfl)) (wi hw 14 rfl) (ty := .int) (by decide) rfl rfl (g := (mkF m 55 #[vR ky, vI r_628] [(.int r_628), (.ref ky)])) rfl rfl (hb hby d42_55)
    have N644 := Fr.snoc X643 N629 gk
    have f646 := f3.other W643 (Or.inr (slot_ne (t := .byte) (t' := .int) (Or.inr (wi hw 29 rfl)) (Or.inl (wi hw 130 rfl)) (by decide) (by decide) (by decide)))
    have f647 := f4.other W643 (Or.inr (slot_ne (t := (.array .byte)) (t' := .int) (Or.inr (wi hw 27 rfl)) (Or.inl (wi hw 130 rfl)) (by decide) (by decide) (by decide)))
    have f648 := f5.same W643
    have f649 := f6.other W643 (Or.inr (slot_ne (t := .boolean) (t' := .int) (Or.inl (wi hw 132 rfl)) (Or.inl (wi hw 130 rfl)) (by decide) (by decide) (by decide)))
    have Kp654 : Keep h0 h643 [ky] := K00.wr W643 (Or.inl (List.mem_of_getElem? (i := 0) rfl))
    refine Rch.st (fun _ k => st643 _ k) ?_
    show Rch p e below T643 (mkF m 58 #[vR ky, vI r_628] []) _
    refine w_iloadN (pc' := 59) X643 hx hby d42_58 rfl rfl ?_
    exact Rch.retV X643 hx Bd.returns rfl (Or.inl ⟨rfl, by simp, _, rfl⟩) (hb hby d42_59) (by rw [e643]; exact ⟨r_628, r_628, hz, rfl, N644, Kp654, fun _ _ F => F.other W643 (Or.inr (slot_ne (t := .byte) (t' := .int) (Or.inr (wi hw 29 rfl)) (Or.inl (wi hw 130 rfl)) (by decide) (by decide) (by decide))), fun _ _ F => F.other W643 (Or.inr (slot_ne (t := (.array .byte)) (t' := .int) (Or.inr (wi hw 27 rfl)) (Or.inl (wi hw 130 rfl)) (by decide) (by decide) (by decide))), f646, f647, f648, f649⟩) (by decide) (by decide)
  ·skip
   refine w_ifYes (pc' := 58) X623 hx hby d42_13 (XT.i0_ne_t (c624)) (by decide) ?_
   refine w_iloadN (pc' := 59) X623 hx hby d42_58 rfl rfl ?_
   exact Rch.retV X623 hx Bd.returns rfl (Or.inl ⟨rfl, by simp, _, rfl⟩) (hb hby d42_59) (by rw [e623]; exact ⟨hv, hv, hz, rfl, N0, K00, fun _ _ F => F, fun _ _ F => F, f3, f4, f5, f6⟩) (by decide) (by decide)
 ·skip
  refine w_ifYes (pc' := 58) X621 hx hby d42_6 (XT.i0_ne_t (c622)) (by decide) ?_
  refine w_iloadN (pc' := 59) X621 hx hby d42_58 rfl rfl ?_
  exact Rch.retV X621 hx Bd.returns rfl (Or.inl ⟨rfl, by simp, _, rfl⟩) (hb hby d42_59) (by rw [e621]; exact ⟨hv, hv, hz, rfl, N0, K00, fun _ _ F => F, fun _ _ F => F, f3, f4, f5, f6⟩) (by decide) (by decide)

abbrev c43 : ByteArray := jdk_69_method_1_code
theorem d43_0 : decode c43 0 = .ok (.aload_n 0, 1) := by decide +kernel
theorem d43_1 : decode c43 1 = .ok (.ifnonnull 7, 3) := by decide +kernel
theorem d43_8 : decode c43 8 = .ok (.aload_n 0, 1) := by decide +kernel
theorem d43_9 : decode c43 9 = .ok (.invokevirtual 1, 3) := by decide +kernel
theorem d43_12 : decode c43 12 = .ok (.dup, 1) := by decide +kernel
theorem d43_13 : decode c43 13 = .ok (.istore_n 1, 1) := by decide +kernel
theorem d43_14 : decode c43 14 = .ok (.iload_n 1, 1) := by decide +kernel
theorem d43_15 : decode c43 15 = .ok (.bipush 16, 2) := by decide +kernel
theorem d43_17 : decode c43 17 = .ok (.iushr, 1) := by decide +kernel
theorem d43_18 : decode c43 18 = .ok (.ixor, 1) := by decide +kernel
theorem d43_19 : decode c43 19 = .ok (.ireturn, 1) := by decide +kernel
theorem ef_rm_hash (m : MethodId) (G1 : Int32) (ky : Addr) (kb : Addr) (kkb : ClassId) (b0 : Int32) (hv : Int32) (hz : Int32)  : entryFrame m #[(.ref ky)] 2 = mkF m 0 #[vR ky, U] [] := by  first | (simp [entryFrame, mkF, argsToLocals, Value.category, maxLocals]; done) | rfl
def Q_rm_hash (Z : State) (G1 : Int32) (ky : Addr) (kb : Addr) (kkb : ClassId) (b0 : Int32) (hv : Int32) (hz : Int32) (h0 : Heap) (n0 : Nat) (v : Option Value) (h : Heap) (L : List Loc) : Prop := ∃ (r : Int32) (x2 : Int32) (y2 : Int32), (v = some (.int r)) ∧ (Fr n0 L) ∧ (Keep h0 h [ky]) ∧ (∀ a v, Fld Z h0 a "java/lang/String" "coder" "B" v → Fld Z h a "java/lang/String" "coder" "B" v) ∧ (∀ a v, Fld Z h0 a "java/lang/String" "value" "[B" v → Fld Z h a "java/lang/String" "value" "[B" v) ∧ (Fld Z h ky "java/lang/String" "coder" "B" (.int (0 : Int32))) ∧ (Fld Z h ky "java/lang/String" "value" "[B" (.ref kb)) ∧ (Fld Z h ky "java/lang/String" "hash" "I" (.int x2)) ∧ (Fld Z h ky "java/lang/String" "hashIsZero" "Z" (.int y2))
set_option maxRecDepth 65536 in
set_option maxHeartbeats 40000000 in
theorem rm_hash (l : Launch) (Z : State) (a0 : Array Value) (hw : ∀ d ∈ tables_1, d.before a0 Z = true) (ws : List Jvm.Cond) (G1 : Int32) (ky : Addr) (kb : Addr) (kkb : ClassId) (b0 : Int32) (hv : Int32) (hz : Int32) (h0 : Heap) (n0 : Nat) (Z0 : n0 ≤ h0.size) (O2 : Sta Z Z.heap "java/lang/String" "COMPACT_STRINGS" "Z" (.int G1)) (P5 : ¬ G1 = 0) (f2 : Exa Z h0 ky "java/lang/String") (f3 : Fld Z h0 ky "java/lang/String" "coder" "B" (.int (0 : Int32))) (f4 : Fld Z h0 ky "java/lang/String" "value" "[B" (.ref kb)) (f5 : Fld Z h0 ky "java/lang/String" "hash" "I" (.int hv)) (f6 : Fld Z h0 ky "java/lang/String" "hashIsZero" "Z" (.int hz)) (f7 : Arv Z h0 kb kkb .byte (1 : Int32) [(.int b0)] (.int (0 : Int32))) (gk : n0 ≤ ky) (Old0 : OldL Z n0 h0) :
    MetN l Z y_45 c43 2 (some .int) ws (Rm 2 0 0 25) #[(.ref ky)] h0 (Q_rm_hash Z G1 ky kb kkb b0 hv hz h0 n0) := by
 refine MetFree.of_bodySF (plainFor_of_name pn_java_util_HashMap) hisR ?_
 intro p e s m args below meth c s₁ Bd hml0 hP hK
 obtain ⟨rfl, hZ, hh⟩ := hP
 have hx := Bd.exec
 have hby := Bd.bytes
 have hml : c.maxLocals = 2 := hml0
 have hown : s.vm.findClass "java/util/HashMap" = some m.cls := findClass_of_methodNamed Bd.named
 have X0 : Stand p l e (Rm 2 0 0 25) s m #[(.ref ky)] below meth c s₁ [] 0 0 := Stand.of_body Bd
 have e0 : s₁.heap = h0 := by rw [← hh, Bd.state]; rfl
 have N0 := Fr.nil n0
 have K00 : Keep h0 h0 [ky] := Keep.refl _ _
 show Rch p e below s₁ (entryFrame m #[(.ref ky)] 2) (FinP s (Q_rm_hash Z G1 ky kb kkb b0 hv hz h0 n0) 0 0)
 refine Rch.cast (ef_rm_hash m G1 ky kb kkb b0 hv hz) ?_
 show Rch p e below s₁ (mkF m 0 #[vR ky, U] []) _
 refine w_aloadN (pc' := 1) X0 hx hby d43_0 rfl rfl rfl ?_
 refine w_nonnullYes (pc' := 8) X0 hx hby d43_1 rfl (fun q => nomatch q) (by decide) ?_
 refine w_aloadN (pc' := 9) X0 hx hby d43_8 rfl rfl rfl ?_
 obtain ⟨cq655, kq655, q655a, q655b, q655c⟩ := isOf hZ e0 f2
 obtain ⟨_, _, ⟨T655, L655, k655, n655⟩, -, X655, ⟨Lc655, hQ655, l655, y655, z655⟩, st655⟩ := X0.virtualBack hx (y := y_46) (z := y_44) hown (mvT hZ (wi hw 123 rfl)) (mvT hZ (wi hw 124 rfl)) (own_nf (args := #[]) (mvT hZ (wi hw 406 rfl)) rfl) (mvT hZ (wi hw 126 rfl)) (mvT hZ (wi hw 127 rfl)) (by decide) (backOf (W := 0) (rm_hc l Z a0 hw [] G1 ky kb kkb b0 hv hz h0 n0 Z0 (O2) (P5) f2 f3 f4 f5 f6 f7 (gk) Old0) hZ (wi hw 128 rfl) (wi hw 6 rfl) (by decide) (by decide)) q655a q655c (g := (mkF m 9 #[vR ky, U] [(.ref ky)])) rfl (by rw [hml]; rfl) (Steps.refl _) (argsL := []) (rest := []) (lenOf pd___I rfl) rfl (by show 2 * 0 + _ ≤ _; exact Nat.le_of_eq rfl) (hb hby d43_9) (fun _ _ => ⟨rfl, e0, (by decide : 0 + 0 ≤ _), (by decide : 0 + 0 ≤ _)⟩)
 dsimp only [Pt.U, Pt.locs, Pt.cells, Pt.slots] at X655 l655 y655 z655 st655 hQ655
 subst l655 y655 z655
 obtain ⟨r_655, x2_655, y2_655, rfl, NQ655, K655, pq655_0, pq655_1, fq655_0, fq655_1, fq655_2, fq655_3⟩ := hQ655
 have N656 := Fr.app N0 NQ655
 have Kp661 : Keep h0 T655.heap [ky] := K00.trans K655 (allS (Or.inl (List.mem_of_getElem? (i := 0) rfl)) all0)
 refine Rch.st (fun _ k => st655.trans k) ?_
 show Rch p e below T655 (mkF m 12 #[vR ky, U] [(.int r_655)]) _
 refine w_dup (pc' := 13) X655 hx hby d43_12 rfl rfl ?_
 refine w_istoreN (pc' := 14) (l' := #[vR ky, vI r_655]) X655 hx hby d43_13 rfl rfl ?_
 refine w_iloadN (pc' := 15) X655 hx hby d43_14 rfl rfl ?_
 refine w_bipush (pc' := 17) (v := 16) X655 hx hby d43_15 rfl rfl ?_
 refine w_iushr (pc' := 18) X655 hx hby d43_17 rfl ?_
 refine w_ixor (pc' := 19) X655 hx hby d43_18 rfl ?_
 exact Rch.retV X655 hx Bd.returns rfl (Or.inl ⟨rfl, by simp, _, rfl⟩) (hb hby d43_19) (by rw [(rfl : T655.heap = T655.heap)]; exact ⟨(r_655 ^^^ (XT.ushr r_655 (16 : Int32))), x2_655, y2_655, rfl, N656, Kp661, pq655_0, pq655_1, fq655_0, fq655_1, fq655_2, fq655_3⟩) (by decide) (by decide)

abbrev c44 : ByteArray := jdk_69_method_17_code
theorem d44_0 : decode c44 0 = .ok (.aload_n 0, 1) := by decide +kernel
theorem d44_1 : decode c44 1 = .ok (.getfield 105, 3) := by decide +kernel
theorem d44_4 : decode c44 4 = .ok (.astore_n 1, 1) := by decide +kernel
theorem d44_5 : decode c44 5 = .ok (.aload_n 1, 1) := by decide +kernel
theorem d44_6 : decode c44 6 = .ok (.ifnonnull 7, 3) := by decide +kernel
theorem d44_9 : decode c44 9 = .ok (.iconst 0, 1) := by decide +kernel
theorem d44_10 : decode c44 10 = .ok (.goto 5, 3) := by decide +kernel
theorem d44_15 : decode c44 15 = .ok (.istore_n 2, 1) := by decide +kernel
theorem d44_16 : decode c44 16 = .ok (.aload_n 0, 1) := by decide +kernel
theorem d44_17 : decode c44 17 = .ok (.getfield 88, 3) := by decide +kernel
theorem d44_20 : decode c44 20 = .ok (.istore_n 3, 1) := by decide +kernel
theorem d44_21 : decode c44 21 = .ok (.iconst 0, 1) := by decide +kernel
theorem d44_22 : decode c44 22 = .ok (.istore 5, 2) := by decide +kernel
theorem d44_24 : decode c44 24 = .ok (.iload_n 2, 1) := by decide +kernel
theorem d44_25 : decode c44 25 = .ok (.ifCond .le 42, 3) := by decide +kernel
theorem d44_67 : decode c44 67 = .ok (.iload_n 3, 1) := by decide +kernel
theorem d44_68 : decode c44 68 = .ok (.ifCond .le 9, 3) := by decide +kernel
theorem d44_77 : decode c44 77 = .ok (.bipush 16, 2) := by decide +kernel
theorem d44_79 : decode c44 79 = .ok (.istore 4, 2) := by decide +kernel
theorem d44_81 : decode c44 81 = .ok (.bipush 12, 2) := by decide +kernel
theorem d44_83 : decode c44 83 = .ok (.istore 5, 2) := by decide +kernel
theorem d44_85 : decode c44 85 = .ok (.iload 5, 2) := by decide +kernel
theorem d44_87 : decode c44 87 = .ok (.ifCond .ne 38, 3) := by decide +kernel
theorem d44_125 : decode c44 125 = .ok (.aload_n 0, 1) := by decide +kernel
theorem d44_126 : decode c44 126 = .ok (.iload 5, 2) := by decide +kernel
theorem d44_128 : decode c44 128 = .ok (.putfield 88, 3) := by decide +kernel
theorem d44_131 : decode c44 131 = .ok (.iload 4, 2) := by decide +kernel
theorem d44_133 : decode c44 133 = .ok (.anewarray 163, 3) := by decide +kernel
theorem d44_136 : decode c44 136 = .ok (.astore 6, 2) := by decide +kernel
theorem d44_138 : decode c44 138 = .ok (.aload_n 0, 1) := by decide +kernel
theorem d44_139 : decode c44 139 = .ok (.aload 6, 2) := by decide +kernel
theorem d44_141 : decode c44 141 = .ok (.putfield 105, 3) := by decide +kernel
theorem d44_144 : decode c44 144 = .ok (.aload_n 1, 1) := by decide +kernel
theorem d44_145 : decode c44 145 = .ok (.ifnull 208, 3) := by decide +kernel
theorem d44_353 : decode c44 353 = .ok (.aload 6, 2) := by decide +kernel
theorem d44_355 : decode c44 355 = .ok (.areturn, 1) := by decide +kernel
theorem ef_rm_rs (m : MethodId) (mp : Addr)  : entryFrame m #[(.ref mp)] 14 = mkF m 0 #[vR mp, U, U, U, U, U, U, U, U, U, U, U, U, U] [] := by  first | (simp [entryFrame, mkF, argsToLocals, Value.category, maxLocals]; done) | rfl
def Q_rm_rs (Z : State) (mp : Addr) (h0 : Heap) (n0 : Nat) (v : Option Value) (h : Heap) (L : List Loc) : Prop := ∃ (t : Addr) (kt : ClassId), (v = some (.ref t)) ∧ (Fr n0 L) ∧ (Keep h0 h [mp]) ∧ (h0.size ≤ t) ∧ (Ovr Z kt "java/util/HashMap$Node") ∧ (Fld Z h mp "java/util/HashMap" "table" "[Ljava/util/HashMap$Node;" (.ref t)) ∧ (Fld Z h mp "java/util/HashMap" "size" "I" (.int (0 : Int32))) ∧ (Fld Z h mp "java/util/HashMap" "modCount" "I" (.int (0 : Int32))) ∧ (Fld Z h mp "java/util/HashMap" "threshold" "I" (.int (12 : Int32))) ∧ (Fld Z h mp "java/util/LinkedHashMap" "putMode" "I" (.int (0 : Int32))) ∧ (Fld Z h mp "java/util/LinkedHashMap" "head" "Ljava/util/LinkedHashMap$Entry;" .null) ∧ (Fld Z h mp "java/util/LinkedHashMap" "tail" "Ljava/util/LinkedHashMap$Entry;" .null) ∧ (Arv Z h t kt (.object "java/util/HashMap$Node") (16 : Int32) ([] : List Value) Value.null)
set_option maxRecDepth 65536 in
set_option maxHeartbeats 40000000 in
theorem rm_rs (l : Launch) (Z : State) (a0 : Array Value) (hw : ∀ d ∈ tables_1, d.before a0 Z = true) (ws : List Jvm.Cond) (mp : Addr) (h0 : Heap) (n0 : Nat) (Z0 : n0 ≤ h0.size) (f0 : Exa Z h0 mp "java/util/LinkedHashMap") (f1 : Fld Z h0 mp "java/util/HashMap" "table" "[Ljava/util/HashMap$Node;" .null) (f2 : Fld Z h0 mp "java/util/HashMap" "size" "I" (.int (0 : Int32))) (f3 : Fld Z h0 mp "java/util/HashMap" "modCount" "I" (.int (0 : Int32))) (f4 : Fld Z h0 mp "java/util/HashMap" "threshold" "I" (.int (0 : Int32))) (f5 : Fld Z h0 mp "java/util/LinkedHashMap" "putMode" "I" (.int (0 : Int32))) (f6 : Fld Z h0 mp "java/util/LinkedHashMap" "head" "Ljava/util/LinkedHashMap$Entry;" .null) (f7 : Fld Z h0 mp "java/util/LinkedHashMap" "tail" "Ljava/util/LinkedHashMap$Entry;" .null) (gm : n0 ≤ mp) :
    MetN l Z y_47 c44 14 (some (.array (.object "java/util/HashMap$Node"))) ws (Rm 0 1 16 0) #[(.ref mp)] h0 (Q_rm_rs Z mp h0 n0) := by
 refine MetFree.of_bodySF (plainFor_of_name pn_java_util_HashMap) hisR ?_
 intro p e s m args below meth c s₁ Bd hml0 hP hK
 obtain ⟨rfl, hZ, hh⟩ := hP
 have hx := Bd.exec
 have hby := Bd.bytes
 have hml : c.maxLocals = 14 := hml0
 have hown : s.vm.findClass "java/util/HashMap" = some m.cls := findClass_of_methodNamed Bd.named
 have X0 : Stand p l e (Rm 0 1 16 0) s m #[(.ref mp)] below meth c s₁ [] 0 0 := Stand.of_body Bd
 have e0 : s₁.heap = h0 := by rw [← hh, Bd.state]; rfl
 have N0 := Fr.nil n0
 have K00 : Keep h0 h0 [mp] := Keep.refl _ _
 show Rch p e below s₁ (entryFrame m #[(.ref mp)] 14) (FinP s (Q_rm_rs Z mp h0 n0) 1 16)
 refine Rch.cast (ef_rm_rs m mp) ?_
 show Rch p e below s₁ (mkF m 0 #[vR mp, U, U, U, U, U, U, U, U, U, U, U, U, U] []) _
 refine w_aloadN (pc' := 1) X0 hx hby d44_0 rfl rfl rfl ?_
 obtain ⟨T663, X663, e663, st663⟩ := getF X0 hx hZ hown (host := "") (Or.inl (wi hw 145 rfl)) Via.refl e0 f1 (g := (mkF m 1 #[vR mp, U, U, U, U, U, U, U, U, U, U, U, U, U] [(.ref mp)])) rfl rfl (hb hby d44_1)
 refine Rch.st (fun _ k => st663 _ k) ?_
 show Rch p e below T663 (mkF m 4 #[vR mp, U, U, U, U, U, U, U, U, U, U, U, U, U] [.null]) _
 refine w_astoreN (pc' := 5) (l' := #[vR mp, vN, U, U, U, U, U, U, U, U, U, U, U, U]) X663 hx hby d44_4 rfl rfl rfl ?_
 refine w_aloadN (pc' := 6) X663 hx hby d44_5 rfl rfl rfl ?_
 refine w_nonnullNo (pc' := 9) X663 hx hby d44_6 (rfl) rfl ?_
 refine w_iconst (pc' := 10) (v := 0) X663 hx hby d44_9 rfl rfl ?_
 refine w_goto (pc' := 15) X663 hx hby d44_10 (by decide) ?_
 refine w_istoreN (pc' := 16) (l' := #[vR mp, vN, vI 0, U, U, U, U, U, U, U, U, U, U, U]) X663 hx hby d44_15 rfl rfl ?_
 refine w_aloadN (pc' := 17) X663 hx hby d44_16 rfl rfl rfl ?_
 obtain ⟨T664, X664, e664, st664⟩ := getF X663 hx hZ hown (host := "") (Or.inl (wi hw 143 rfl)) Via.refl e663 f4 (g := (mkF m 17 #[vR mp, vN, vI 0, U, U, U, U, U, U, U, U, U, U, U] [(.ref mp)])) rfl rfl (hb hby d44_17)
 refine Rch.st (fun _ k => st664 _ k) ?_
 show Rch p e below T664 (mkF m 20 #[vR mp, vN, vI 0, U, U, U, U, U, U, U, U, U, U, U] [(.int 0)]) _
 refine w_istoreN (pc' := 21) (l' := #[vR mp, vN, vI 0, vI 0, U, U, U, U, U, U, U, U, U, U]) X664 hx hby d44_20 rfl rfl ?_
 refine w_iconst (pc' := 22) (v := 0) X664 hx hby d44_21 rfl rfl ?_
 refine w_istore (pc' := 24) (l' := #[vR mp, vN, vI 0, vI 0, U, vI 0, U, U, U, U, U, U, U, U]) X664 hx hby d44_22 rfl rfl ?_
 refine w_iloadN (pc' := 25) X664 hx hby d44_24 rfl rfl ?_
 refine w_ifYes (pc' := 67) X664 hx hby d44_25 (XT.i0_le_t (by decide)) (by decide) ?_
 refine w_iloadN (pc' := 68) X664 hx hby d44_67 rfl rfl ?_
 refine w_ifYes (pc' := 77) X664 hx hby d44_68 (XT.i0_le_t (by decide)) (by decide) ?_
 refine w_bipush (pc' := 79) (v := 16) X664 hx hby d44_77 rfl rfl ?_
 refine w_istore (pc' := 81) (l' := #[vR mp, vN, vI 0, vI 0, vI 16, vI 0, U, U, U, U, U, U, U, U]) X664 hx hby d44_79 rfl rfl ?_
 refine w_bipush (pc' := 83) (v := 12) X664 hx hby d44_81 rfl rfl ?_
 refine w_istore (pc' := 85) (l' := #[vR mp, vN, vI 0, vI 0, vI 16, vI 12, U, U, U, U, U, U, U, U]) X664 hx hby d44_83 rfl rfl ?_
 refine w_iload (pc' := 87) X664 hx hby d44_85 rfl rfl ?_
 refine w_ifYes (pc' := 125) X664 hx hby d44_87 (XT.i0_ne_t (by decide)) (by decide) ?_
 refine w_aloadN (pc' := 126) X664 hx hby d44_125 rfl rfl rfl ?_
 refine w_iload (pc' := 128) X664 hx hby d44_126 rfl rfl ?_
 obtain ⟨T665, h665, X665, e665, W665, st665⟩ := putF X664 hx hZ hown (host := "") (Or.inl (wi hw 143 rfl)) Via.refl e664 f4 f0 (Or.inl (wi hw 144 rfl)) (wi hw 38 rfl) (ty := .int) (by decide) rfl rfl (g := (mkF m 128 #[vR mp, vN, vI 0, vI 0, vI 16, vI 12, U, U, U, U, U, U, U, U] [(.int 12), (.ref mp)])) rfl rfl (hb hby d44_128)
 have N666 := Fr.snoc X665 N0 gm
 have f667 := f0.wr W665
 have f668 := f1.other W665 (Or.inr (slot_ne (t := (.array (.object "java/util/HashMap$Node"))) (t' := .int) (Or.inl (wi hw 146 rfl)) (Or.inl (wi hw 144 rfl)) (by decide) (by decide) (by decide)))
 have f669 := f2.other W665 (Or.inr (slot_ne (t := .int) (t' := .int) (Or.inl (wi hw 142 rfl)) (Or.inl (wi hw 144 rfl)) (by decide) (by decide) (by decide)))
 have f670 := f3.other W665 (Or.inr (slot_ne (t := .int) (t' := .int) (Or.inl (wi hw 155 rfl)) (Or.inl (wi hw 144 rfl)) (by decide) (by decide) (by decide)))
 have f671 := f4.same W665
 have f672 := f5.other W665 (Or.inr (slot_ne (t := .int) (t' := .int) (Or.inl (wi hw 60 rfl)) (Or.inl (wi hw 144 rfl)) (by decide) (by decide) (by decide)))
 have f673 := f6.other W665 (Or.inr (slot_ne (t := (.object "java/util/LinkedHashMap$Entry")) (t' := .int) (Or.inl (wi hw 322 rfl)) (Or.inl (wi hw 144 rfl)) (by decide) (by decide) (by decide)))
 have f674 := f7.other W665 (Or.inr (slot_ne (t := (.object "java/util/LinkedHashMap$Entry")) (t' := .int) (Or.inl (wi hw 320 rfl)) (Or.inl (wi hw 144 rfl)) (by decide) (by decide) (by decide)))
 have Kp676 : Keep h0 h665 [mp] := K00.wr W665 (Or.inl (List.mem_of_getElem? (i := 0) rfl))
 refine Rch.st (fun _ k => st665 _ k) ?_
 show Rch p e below T665 (mkF m 131 #[vR mp, vN, vI 0, vI 0, vI 16, vI 12, U, U, U, U, U, U, U, U] []) _
 refine w_iload (pc' := 133) X665 hx hby d44_131 rfl rfl ?_
 obtain ⟨T677, h677, kc677, X677, e677, E677, A677, O677, st677⟩ := newR X665 hx hZ hown (wi hw 152 rfl) (wi hw 153 rfl) e665 (g := (mkF m 133 #[vR mp, vN, vI 0, vI 0, vI 16, vI 12, U, U, U, U, U, U, U, U] [(.int 16)])) rfl (hb hby d44_133) rfl (by decide : ¬ ((16 : Int32) < (0 : Int32))) (cap := 16) (by decide : (16 : Int32).toNatClampNeg ≤ 16) (by decide) (by decide) (by decide)
 obtain ⟨a677, g677⟩ : ∃ z, z = h665.size := ⟨_, rfl⟩
 rw [← g677] at A677 st677
 have ne678 : mp ≠ a677 := by rw [g677]; exact Nat.ne_of_lt f667.lt
 have f681 := f667.ext E677
 have f682 := f668.ext E677
 have f683 := f669.ext E677
 have f684 := f670.ext E677
 have f685 := f671.ext E677
 have f686 := f672.ext E677
 have f687 := f673.ext E677
 have f688 := f674.ext E677
 have Kp690 : Keep h0 h677 [mp] := Kp676.ext E677
 have f691 : Arv Z h677 a677 kc677 (.object "java/util/HashMap$Node") (16 : Int32) ([] : List Value) Value.null := Arv.new A677 (by decide : ¬ ((16 : Int32) < (0 : Int32)))
 refine Rch.st (fun _ k => st677 _ k) ?_
 show Rch p e below T677 (mkF m 136 #[vR mp, vN, vI 0, vI 0, vI 16, vI 12, U, U, U, U, U, U, U, U] [(.ref a677)]) _
 refine w_astore (pc' := 138) (l' := #[vR mp, vN, vI 0, vI 0, vI 16, vI 12, vR a677, U, U, U, U, U, U, U]) X677 hx hby d44_136 rfl rfl rfl ?_
 refine w_aloadN (pc' := 139) X677 hx hby d44_138 rfl rfl rfl ?_
 refine w_aload (pc' := 141) X677 hx hby d44_139 rfl rfl rfl ?_
 obtain ⟨T692, h692, X692, e692, W692, st692⟩ := putF X677 hx hZ hown (host := "") (Or.inl (wi hw 145 rfl)) Via.refl e677 f682 f681 (Or.inl (wi hw 146 rfl)) (wi hw 38 rfl) (ty := (.array (.object "java/util/HashMap$Node"))) (by decide) rfl rfl (g := (mkF m 141 #[vR mp, vN, vI 0, vI 0, vI 16, vI 12, vR a677, U, U, U, U, U, U, U] [(.ref a677), (.ref mp)])) rfl rfl (hb hby d44_141)
 have N693 := Fr.snoc X692 N666 gm
 have f695 := f682.same W692
 have f696 := f683.other W692 (Or.inr (slot_ne (t := .int) (t' := (.array (.object "java/util/HashMap$Node"))) (Or.inl (wi hw 142 rfl)) (Or.inl (wi hw 146 rfl)) (by decide) (by decide) (by decide)))
 have f697 := f684.other W692 (Or.inr (slot_ne (t := .int) (t' := (.array (.object "java/util/HashMap$Node"))) (Or.inl (wi hw 155 rfl)) (Or.inl (wi hw 146 rfl)) (by decide) (by decide) (by decide)))
 have f698 := f685.other W692 (Or.inr (slot_ne (t := .int) (t' := (.array (.object "java/util/HashMap$Node"))) (Or.inl (wi hw 144 rfl)) (Or.inl (wi hw 146 rfl)) (by decide) (by decide) (by decide)))
 have f699 := f686.other W692 (Or.inr (slot_ne (t := .int) (t' := (.array (.object "java/util/HashMap$Node"))) (Or.inl (wi hw 60 rfl)) (Or.inl (wi hw 146 rfl)) (by decide) (by decide) (by decide)))
 have f700 := f687.other W692 (Or.inr (slot_ne (t := (.object "java/util/LinkedHashMap$Entry")) (t' := (.array (.object "java/util/HashMap$Node"))) (Or.inl (wi hw 322 rfl)) (Or.inl (wi hw 146 rfl)) (by decide) (by decide) (by decide)))
 have f701 := f688.other W692 (Or.inr (slot_ne (t := (.object "java/util/LinkedHashMap$Entry")) (t' := (.array (.object "java/util/HashMap$Node"))) (Or.inl (wi hw 320 rfl)) (Or.inl (wi hw 146 rfl)) (by decide) (by decide) (by decide)))
 have f702 := f691.other W692 (Ne.symm ne678)
 have Kp704 : Keep h0 h692 [mp] := Kp690.wr W692 (Or.inl (List.mem_of_getElem? (i := 0) rfl))
 refine Rch.st (fun _ k => st692 _ k) ?_
 show Rch p e below T692 (mkF m 144 #[vR mp, vN, vI 0, vI 0, vI 16, vI 12, vR a677, U, U, U, U, U, U, U] []) _
 refine w_aloadN (pc' := 145) X692 hx hby d44_144 rfl rfl rfl ?_
 refine w_nullYes (pc' := 353) X692 hx hby d44_145 (rfl) (by decide) ?_
 refine w_aload (pc' := 355) X692 hx hby d44_353 rfl rfl rfl ?_
 exact Rch.retV X692 hx Bd.returns rfl (Or.inr (Or.inr (Or.inr (Or.inr ⟨rfl, rfl, rfl⟩)))) (hb hby d44_355) (by rw [e692]; exact ⟨a677, kc677, rfl, N693, Kp704, (Nat.le_trans Kp676.1 (Nat.le_of_eq g677.symm)), O677, f695, f696, f697, f698, f699, f700, f701, f702⟩) (by decide) (by decide)

abbrev c45 : ByteArray := jdk_70_method_1_code
theorem d45_0 : decode c45 0 = .ok (.aload_n 0, 1) := by decide +kernel
theorem d45_1 : decode c45 1 = .ok (.invokespecial 1, 3) := by decide +kernel
theorem d45_4 : decode c45 4 = .ok (.aload_n 0, 1) := by decide +kernel
theorem d45_5 : decode c45 5 = .ok (.iload_n 1, 1) := by decide +kernel
theorem d45_6 : decode c45 6 = .ok (.putfield 7, 3) := by decide +kernel
theorem d45_9 : decode c45 9 = .ok (.aload_n 0, 1) := by decide +kernel
theorem d45_10 : decode c45 10 = .ok (.aload_n 2, 1) := by decide +kernel
theorem d45_11 : decode c45 11 = .ok (.putfield 13, 3) := by decide +kernel
theorem d45_14 : decode c45 14 = .ok (.aload_n 0, 1) := by decide +kernel
theorem d45_15 : decode c45 15 = .ok (.aload_n 3, 1) := by decide +kernel
theorem d45_16 : decode c45 16 = .ok (.putfield 17, 3) := by decide +kernel
theorem d45_19 : decode c45 19 = .ok (.aload_n 0, 1) := by decide +kernel
theorem d45_20 : decode c45 20 = .ok (.aload 4, 2) := by decide +kernel
theorem d45_22 : decode c45 22 = .ok (.putfield 20, 3) := by decide +kernel
theorem d45_25 : decode c45 25 = .ok (.return_, 1) := by decide +kernel
theorem pn_java_util_HashMap_Node : plainName "java/util/HashMap$Node" = true := by first | (simp [plainName, overriddenIn]; done) | decide +kernel
theorem ef_rm_nd (m : MethodId) (en : Addr) (hs : Int32) (ky : Addr) (nv : Addr)  : entryFrame m #[(.ref en), (.int hs), (.ref ky), (.ref nv), .null] 5 = mkF m 0 #[vR en, vI hs, vR ky, vR nv, vN] [] := by  first | (simp [entryFrame, mkF, argsToLocals, Value.category, maxLocals]; done) | rfl
def Q_rm_nd (Z : State) (en : Addr) (hs : Int32) (ky : Addr) (nv : Addr) (h0 : Heap) (n0 : Nat) (v : Option Value) (h : Heap) (L : List Loc) : Prop := (v = none) ∧ (Fr n0 L) ∧ (Keep h0 h [en])
set_option maxRecDepth 65536 in
set_option maxHeartbeats 40000000 in
theorem rm_nd (l : Launch) (Z : State) (a0 : Array Value) (hw : ∀ d ∈ tables_1, d.before a0 Z = true) (ws : List Jvm.Cond) (en : Addr) (hs : Int32) (ky : Addr) (nv : Addr) (h0 : Heap) (n0 : Nat) (Z0 : n0 ≤ h0.size) (f0 : Exa Z h0 en "java/util/LinkedHashMap$Entry") (f1 : Fld Z h0 en "java/util/HashMap$Node" "hash" "I" (.int (0 : Int32))) (f2 : Fld Z h0 en "java/util/HashMap$Node" "key" "Ljava/lang/Object;" .null) (f3 : Fld Z h0 en "java/util/HashMap$Node" "value" "Ljava/lang/Object;" .null) (f4 : Fld Z h0 en "java/util/HashMap$Node" "next" "Ljava/util/HashMap$Node;" .null) (ge : n0 ≤ en) :
    MetN l Z y_48 c45 5 none ws (Rm 1 0 0 12) #[(.ref en), (.int hs), (.ref ky), (.ref nv), .null] h0 (Q_rm_nd Z en hs ky nv h0 n0) := by
 refine MetFree.of_bodySF (plainFor_of_name pn_java_util_HashMap_Node) hisR ?_
 intro p e s m args below meth c s₁ Bd hml0 hP hK
 obtain ⟨rfl, hZ, hh⟩ := hP
 have hx := Bd.exec
 have hby := Bd.bytes
 have hml : c.maxLocals = 5 := hml0
 have hown : s.vm.findClass "java/util/HashMap$Node" = some m.cls := findClass_of_methodNamed Bd.named
 have hnm := (name_of_methodNamed Bd.named Bd.method).1
 have X0 : Stand p l e (Rm 1 0 0 12) s m #[(.ref en), (.int hs), (.ref ky), (.ref nv), .null] below meth c s₁ [] 0 0 := Stand.of_body Bd
 have e0 : s₁.heap = h0 := by rw [← hh, Bd.state]; rfl
 have N0 := Fr.nil n0
 have K00 : Keep h0 h0 [en] := Keep.refl _ _
 show Rch p e below s₁ (entryFrame m #[(.ref en), (.int hs), (.ref ky), (.ref nv), .null] 5) (FinP s (Q_rm_nd Z en hs ky nv h0 n0) 0 0)
 refine Rch.cast (ef_rm_nd m en hs ky nv) ?_
 show Rch p e below s₁ (mkF m 0 #[vR en, vI hs, vR ky, vR nv, vN] []) _
 refine w_aloadN (pc' := 1) X0 hx hby d45_0 rfl rfl rfl ?_
 obtain ⟨T705, X705, e705, st705⟩ := initO X0 hx hZ hown (wi hw 305 rfl) (wi hw 24 rfl) (wi hw 25 rfl) e0 (g := (mkF m 1 #[vR en, vI hs, vR ky, vR nv, vN] [(.ref en)])) rfl (by rw [hml]; rfl) rfl (hb hby d45_1) (by decide) (W := 0) (by show 2 * 0 + _ ≤ _; exact Nat.le_of_eq rfl) (by decide)
 refine Rch.st (fun _ k => st705 _ k) ?_
 show Rch p e below T705 (mkF m 4 #[vR en, vI hs, vR ky, vR nv, vN] []) _
 refine w_aloadN (pc' := 5) X705 hx hby d45_4 rfl rfl rfl ?_
 refine w_iloadN (pc' := 6) X705 hx hby d45_5 rfl rfl ?_
 obtain ⟨T706, h706, X706, e706, W706, st706⟩ := putF X705 hx hZ hown (host := "") (Or.inl (wi hw 306 rfl)) Via.refl e705 f1 f0 (Or.inr ⟨(wi hw 307 rfl), rfl, hnm⟩) (wi hw 293 rfl) (ty := .int) (by decide) rfl rfl (g := (mkF m 6 #[vR en, vI hs, vR ky, vR nv, vN] [(.int hs), (.ref en)])) rfl rfl (hb hby d45_6)
 have N707 := Fr.snoc X706 N0 ge
 have f708 := f0.wr W706
 have f710 := f2.other W706 (Or.inr (slot_ne (t := (.object "java/lang/Object")) (t' := .int) (Or.inr (wi hw 309 rfl)) (Or.inr (wi hw 307 rfl)) (by decide) (by decide) (by decide)))
 have f711 := f3.other W706 (Or.inr (slot_ne (t := (.object "java/lang/Object")) (t' := .int) (Or.inl (wi hw 311 rfl)) (Or.inr (wi hw 307 rfl)) (by decide) (by decide) (by decide)))
 have f712 := f4.other W706 (Or.inr (slot_ne (t := (.object "java/util/HashMap$Node")) (t' := .int) (Or.inl (wi hw 313 rfl)) (Or.inr (wi hw 307 rfl)) (by decide) (by decide) (by decide)))
 have Kp714 : Keep h0 h706 [en] := K00.wr W706 (Or.inl (List.mem_of_getElem? (i := 0) rfl))
 refine Rch.st (fun _ k => st706 _ k) ?_
 show Rch p e below T706 (mkF m 9 #[vR en, vI hs, vR ky, vR nv, vN] []) _
 refine w_aloadN (pc' := 10) X706 hx hby d45_9 rfl rfl rfl ?_
 refine w_aloadN (pc' := 11) X706 hx hby d45_10 rfl rfl rfl ?_
 obtain ⟨T715, h715, X715, e715, W715, st715⟩ := putF X706 hx hZ hown (host := "") (Or.inl (wi hw 308 rfl)) Via.refl e706 f710 f708 (Or.inr ⟨(wi hw 309 rfl), rfl, hnm⟩) (wi hw 293 rfl) (ty := (.object "java/lang/Object")) (by decide) rfl rfl (g := (mkF m 11 #[vR en, vI hs, vR ky, vR nv, vN] [(.ref ky), (.ref en)])) rfl rfl (hb hby d45_11)
 have N716 := Fr.snoc X715 N707 ge
 have f717 := f708.wr W715
 have f720 := f711.other W715 (Or.inr (slot_ne (t := (.object "java/lang/Object")) (t' := (.object "java/lang/Object")) (Or.inl (wi hw 311 rfl)) (Or.inr (wi hw 309 rfl)) (by decide) (by decide) (by decide)))
 have f721 := f712.other W715 (Or.inr (slot_ne (t := (.object "java/util/HashMap$Node")) (t' := (.object "java/lang/Object")) (Or.inl (wi hw 313 rfl)) (Or.inr (wi hw 309 rfl)) (by decide) (by decide) (by decide)))
 have Kp723 : Keep h0 h715 [en] := Kp714.wr W715 (Or.inl (List.mem_of_getElem? (i := 0) rfl))
 refine Rch.st (fun _ k => st715 _ k) ?_
 show Rch p e below T715 (mkF m 14 #[vR en, vI hs, vR ky, vR nv, vN] []) _
 refine w_aloadN (pc' := 15) X715 hx hby d45_14 rfl rfl rfl ?_
 refine w_aloadN (pc' := 16) X715 hx hby d45_15 rfl rfl rfl ?_
 obtain ⟨T724, h724, X724, e724, W724, st724⟩ := putF X715 hx hZ hown (host := "") (Or.inl (wi hw 310 rfl)) Via.refl e715 f720 f717 (Or.inl (wi hw 311 rfl)) (wi hw 293 rfl) (ty := (.object "java/lang/Object")) (by decide) rfl rfl (g := (mkF m 16 #[vR en, vI hs, vR ky, vR nv, vN] [(.ref nv), (.ref en)])) rfl rfl (hb hby d45_16)
 have N725 := Fr.snoc X724 N716 ge
 have f726 := f717.wr W724
 have f730 := f721.other W724 (Or.inr (slot_ne (t := (.object "java/util/HashMap$Node")) (t' := (.object "java/lang/Object")) (Or.inl (wi hw 313 rfl)) (Or.inl (wi hw 311 rfl)) (by decide) (by decide) (by decide)))
 have Kp732 : Keep h0 h724 [en] := Kp723.wr W724 (Or.inl (List.mem_of_getElem? (i := 0) rfl))
 refine Rch.st (fun _ k => st724 _ k) ?_
 show Rch p e below T724 (mkF m 19 #[vR en, vI hs, vR ky, vR nv, vN] []) _
 refine w_aloadN (pc' := 20) X724 hx hby d45_19 rfl rfl rfl ?_
 refine w_aload (pc' := 22) X724 hx hby d45_20 rfl rfl rfl ?_
 obtain ⟨T733, h733, X733, e733, W733, st733⟩ := putF X724 hx hZ hown (host := "") (Or.inl (wi hw 312 rfl)) Via.refl e724 f730 f726 (Or.inl (wi hw 313 rfl)) (wi hw 293 rfl) (ty := (.object "java/util/HashMap$Node")) (by decide) rfl rfl (g := (mkF m 22 #[vR en, vI hs, vR ky, vR nv, vN] [.null, (.ref en)])) rfl rfl (hb hby d45_22)
 have N734 := Fr.snoc X733 N725 ge
 have Kp741 : Keep h0 h733 [en] := Kp732.wr W733 (Or.inl (List.mem_of_getElem? (i := 0) rfl))
 refine Rch.st (fun _ k => st733 _ k) ?_
 show Rch p e below T733 (mkF m 25 #[vR en, vI hs, vR ky, vR nv, vN] []) _
 exact Rch.ret0 X733 hx Bd.returns (hb hby d45_25) (by rw [e733]; exact ⟨rfl, N734, Kp741⟩) (by decide) (by decide)

abbrev c46 : ByteArray := jdk_83_method_1_code
theorem d46_0 : decode c46 0 = .ok (.aload_n 0, 1) := by decide +kernel
theorem d46_1 : decode c46 1 = .ok (.iload_n 1, 1) := by decide +kernel
theorem d46_2 : decode c46 2 = .ok (.aload_n 2, 1) := by decide +kernel
theorem d46_3 : decode c46 3 = .ok (.aload_n 3, 1) := by decide +kernel
theorem d46_4 : decode c46 4 = .ok (.aload 4, 2) := by decide +kernel
theorem d46_6 : decode c46 6 = .ok (.invokespecial 1, 3) := by decide +kernel
theorem d46_9 : decode c46 9 = .ok (.return_, 1) := by decide +kernel
theorem pn_java_util_LinkedHashMap_Entry : plainName "java/util/LinkedHashMap$Entry" = true := by first | (simp [plainName, overriddenIn]; done) | decide +kernel
theorem ef_rm_en_ (m : MethodId) (en : Addr) (hs : Int32) (ky : Addr) (nv : Addr)  : entryFrame m #[(.ref en), (.int hs), (.ref ky), (.ref nv), .null] 5 = mkF m 0 #[vR en, vI hs, vR ky, vR nv, vN] [] := by  first | (simp [entryFrame, mkF, argsToLocals, Value.category, maxLocals]; done) | rfl
def Q_rm_en_ (Z : State) (en : Addr) (hs : Int32) (ky : Addr) (nv : Addr) (h0 : Heap) (n0 : Nat) (v : Option Value) (h : Heap) (L : List Loc) : Prop := (v = none) ∧ (Fr n0 L) ∧ (Keep h0 h [en])
theorem pd__ILjava_lang_Object_Ljava_lang_Object_Ljava_util_HashMap_Node__V : parseMethodDescriptor "(ILjava/lang/Object;Ljava/lang/Object;Ljava/util/HashMap$Node;)V" = some ⟨[.int, (.object "java/lang/Object"), (.object "java/lang/Object"), (.object "java/util/HashMap$Node")], none⟩ := by decide +kernel
set_option maxRecDepth 65536 in
set_option maxHeartbeats 40000000 in
theorem rm_en_ (l : Launch) (Z : State) (a0 : Array Value) (hw : ∀ d ∈ tables_1, d.before a0 Z = true) (ws : List Jvm.Cond) (en : Addr) (hs : Int32) (ky : Addr) (nv : Addr) (h0 : Heap) (n0 : Nat) (Z0 : n0 ≤ h0.size) (f0 : Exa Z h0 en "java/util/LinkedHashMap$Entry") (f1 : Fld Z h0 en "java/util/HashMap$Node" "hash" "I" (.int (0 : Int32))) (f2 : Fld Z h0 en "java/util/HashMap$Node" "key" "Ljava/lang/Object;" .null) (f3 : Fld Z h0 en "java/util/HashMap$Node" "value" "Ljava/lang/Object;" .null) (f4 : Fld Z h0 en "java/util/HashMap$Node" "next" "Ljava/util/HashMap$Node;" .null) (ge : n0 ≤ en) :
    MetN l Z y_49 c46 5 none ws (Rm 2 0 0 28) #[(.ref en), (.int hs), (.ref ky), (.ref nv), .null] h0 (Q_rm_en_ Z en hs ky nv h0 n0) := by
 refine MetFree.of_bodySF (plainFor_of_name pn_java_util_LinkedHashMap_Entry) hisR ?_
 intro p e s m args below meth c s₁ Bd hml0 hP hK
 obtain ⟨rfl, hZ, hh⟩ := hP
 have hx := Bd.exec
 have hby := Bd.bytes
 have hml : c.maxLocals = 5 := hml0
 have hown : s.vm.findClass "java/util/LinkedHashMap$Entry" = some m.cls := findClass_of_methodNamed Bd.named
 have X0 : Stand p l e (Rm 2 0 0 28) s m #[(.ref en), (.int hs), (.ref ky), (.ref nv), .null] below meth c s₁ [] 0 0 := Stand.of_body Bd
 have e0 : s₁.heap = h0 := by rw [← hh, Bd.state]; rfl
 have N0 := Fr.nil n0
 have K00 : Keep h0 h0 [en] := Keep.refl _ _
 show Rch p e below s₁ (entryFrame m #[(.ref en), (.int hs), (.ref ky), (.ref nv), .null] 5) (FinP s (Q_rm_en_ Z en hs ky nv h0 n0) 0 0)
 refine Rch.cast (ef_rm_en_ m en hs ky nv) ?_
 show Rch p e below s₁ (mkF m 0 #[vR en, vI hs, vR ky, vR nv, vN] []) _
 refine w_aloadN (pc' := 1) X0 hx hby d46_0 rfl rfl rfl ?_
 refine w_iloadN (pc' := 2) X0 hx hby d46_1 rfl rfl ?_
 refine w_aloadN (pc' := 3) X0 hx hby d46_2 rfl rfl rfl ?_
 refine w_aloadN (pc' := 4) X0 hx hby d46_3 rfl rfl rfl ?_
 refine w_aload (pc' := 6) X0 hx hby d46_4 rfl rfl rfl ?_
 obtain ⟨_, _, ⟨T742, L742, k742, n742⟩, -, X742, ⟨Lc742, hQ742, l742, y742, z742⟩, st742⟩ := X0.specialBack hx (y := y_48) rfl hown (mvT hZ (wi hw 299 rfl)) (mvT hZ (wi hw 300 rfl)) (mvT hZ (wi hw 304 rfl)) (by decide) (backOf (W := 0) (rm_nd l Z a0 hw [] en hs ky nv h0 n0 Z0 f0 f1 f2 f3 f4 (ge)) hZ (wi hw 304 rfl) (wi hw 303 rfl) (by decide) (by decide)) (g := (mkF m 6 #[vR en, vI hs, vR ky, vR nv, vN] [.null, (.ref nv), (.ref ky), (.int hs), (.ref en)])) rfl (by rw [hml]; rfl) (Steps.refl _) (a := en) (argsL := [(.int hs), (.ref ky), (.ref nv), .null]) (rest := []) (lenOf pd__ILjava_lang_Object_Ljava_lang_Object_Ljava_util_HashMap_Node__V rfl) rfl (by show 2 * 0 + _ ≤ _; exact Nat.le_of_eq rfl) (hb hby d46_6) (fun _ _ => ⟨rfl, e0, (by decide : 0 + 0 ≤ _), (by decide : 0 + 0 ≤ _)⟩)
 dsimp only [Pt.U, Pt.locs, Pt.cells, Pt.slots] at X742 l742 y742 z742 st742 hQ742
 subst l742 y742 z742
 obtain ⟨rfl, NQ742, K742⟩ := hQ742
 have N743 := Fr.app N0 NQ742
 have Kp745 : Keep h0 T742.heap [en] := K00.trans K742 (allS (Or.inl (List.mem_of_getElem? (i := 0) rfl)) all0)
 refine Rch.st (fun _ k => st742.trans k) ?_
 show Rch p e below T742 (mkF m 9 #[vR en, vI hs, vR ky, vR nv, vN] []) _
 exact Rch.ret0 X742 hx Bd.returns (hb hby d46_9) (by rw [(rfl : T742.heap = T742.heap)]; exact ⟨rfl, N743, Kp745⟩) (by decide) (by decide)

abbrev c47 : ByteArray := jdk_94_method_1_code
theorem d47_0 : decode c47 0 = .ok (.aload_n 0, 1) := by decide +kernel
theorem d47_1 : decode c47 1 = .ok (.getfield 1, 3) := by decide +kernel
theorem d47_4 : decode c47 4 = .ok (.iconst 1, 1) := by decide +kernel
theorem d47_5 : decode c47 5 = .ok (.if_icmp .ne 38, 3) := by decide +kernel
theorem d47_43 : decode c47 43 = .ok (.aload_n 0, 1) := by decide +kernel
theorem d47_44 : decode c47 44 = .ok (.getfield 11, 3) := by decide +kernel
theorem d47_47 : decode c47 47 = .ok (.astore_n 2, 1) := by decide +kernel
theorem d47_48 : decode c47 48 = .ok (.aload_n 0, 1) := by decide +kernel
theorem d47_49 : decode c47 49 = .ok (.aload_n 1, 1) := by decide +kernel
theorem d47_50 : decode c47 50 = .ok (.putfield 11, 3) := by decide +kernel
theorem d47_53 : decode c47 53 = .ok (.aload_n 2, 1) := by decide +kernel
theorem d47_54 : decode c47 54 = .ok (.ifnonnull 11, 3) := by decide +kernel
theorem d47_57 : decode c47 57 = .ok (.aload_n 0, 1) := by decide +kernel
theorem d47_58 : decode c47 58 = .ok (.aload_n 1, 1) := by decide +kernel
theorem d47_59 : decode c47 59 = .ok (.putfield 7, 3) := by decide +kernel
theorem d47_62 : decode c47 62 = .ok (.goto 13, 3) := by decide +kernel
theorem d47_75 : decode c47 75 = .ok (.return_, 1) := by decide +kernel
theorem ef_rm_lk (m : MethodId) (mp : Addr) (t : Addr) (en : Addr)  : entryFrame m #[(.ref mp), (.ref en)] 3 = mkF m 0 #[vR mp, vR en, U] [] := by  first | (simp [entryFrame, mkF, argsToLocals, Value.category, maxLocals]; done) | rfl
def Q_rm_lk (Z : State) (mp : Addr) (t : Addr) (en : Addr) (h0 : Heap) (n0 : Nat) (v : Option Value) (h : Heap) (L : List Loc) : Prop := (v = none) ∧ (Fr n0 L) ∧ (Keep h0 h [mp]) ∧ (Fld Z h mp "java/util/HashMap" "table" "[Ljava/util/HashMap$Node;" (.ref t)) ∧ (Fld Z h mp "java/util/HashMap" "size" "I" (.int (0 : Int32))) ∧ (Fld Z h mp "java/util/HashMap" "modCount" "I" (.int (0 : Int32))) ∧ (Fld Z h mp "java/util/HashMap" "threshold" "I" (.int (12 : Int32))) ∧ (Fld Z h mp "java/util/LinkedHashMap" "putMode" "I" (.int (0 : Int32))) ∧ (Fld Z h mp "java/util/LinkedHashMap" "head" "Ljava/util/LinkedHashMap$Entry;" (.ref en)) ∧ (Fld Z h mp "java/util/LinkedHashMap" "tail" "Ljava/util/LinkedHashMap$Entry;" (.ref en))
set_option maxRecDepth 65536 in
set_option maxHeartbeats 40000000 in
theorem rm_lk (l : Launch) (Z : State) (a0 : Array Value) (hw : ∀ d ∈ tables_1, d.before a0 Z = true) (ws : List Jvm.Cond) (mp : Addr) (t : Addr) (en : Addr) (h0 : Heap) (n0 : Nat) (Z0 : n0 ≤ h0.size) (f0 : Exa Z h0 mp "java/util/LinkedHashMap") (f1 : Fld Z h0 mp "java/util/HashMap" "table" "[Ljava/util/HashMap$Node;" (.ref t)) (f2 : Fld Z h0 mp "java/util/HashMap" "size" "I" (.int (0 : Int32))) (f3 : Fld Z h0 mp "java/util/HashMap" "modCount" "I" (.int (0 : Int32))) (f4 : Fld Z h0 mp "java/util/HashMap" "threshold" "I" (.int (12 : Int32))) (f5 : Fld Z h0 mp "java/util/LinkedHashMap" "putMode" "I" (.int (0 : Int32))) (f6 : Fld Z h0 mp "java/util/LinkedHashMap" "head" "Ljava/util/LinkedHashMap$Entry;" .null) (f7 : Fld Z h0 mp "java/util/LinkedHashMap" "tail" "Ljava/util/LinkedHashMap$Entry;" .null) (gm : n0 ≤ mp) :
    MetN l Z y_50 c47 3 none ws (Rm 0 0 0 0) #[(.ref mp), (.ref en)] h0 (Q_rm_lk Z mp t en h0 n0) := by
 refine MetFree.of_bodySF (plainFor_of_name pn_java_util_LinkedHashMap) hisR ?_
 intro p e s m args below meth c s₁ Bd hml0 hP hK
 obtain ⟨rfl, hZ, hh⟩ := hP
 have hx := Bd.exec
 have hby := Bd.bytes
 have hml : c.maxLocals = 3 := hml0
 have hown : s.vm.findClass "java/util/LinkedHashMap" = some m.cls := findClass_of_methodNamed Bd.named
 have X0 : Stand p l e (Rm 0 0 0 0) s m #[(.ref mp), (.ref en)] below meth c s₁ [] 0 0 := Stand.of_body Bd
 have e0 : s₁.heap = h0 := by rw [← hh, Bd.state]; rfl
 have N0 := Fr.nil n0
 have K00 : Keep h0 h0 [mp] := Keep.refl _ _
 show Rch p e below s₁ (entryFrame m #[(.ref mp), (.ref en)] 3) (FinP s (Q_rm_lk Z mp t en h0 n0) 0 0)
 refine Rch.cast (ef_rm_lk m mp t en) ?_
 show Rch p e below s₁ (mkF m 0 #[vR mp, vR en, U] []) _
 refine w_aloadN (pc' := 1) X0 hx hby d47_0 rfl rfl rfl ?_
 obtain ⟨T747, X747, e747, st747⟩ := getF X0 hx hZ hown (host := "") (Or.inl (wi hw 59 rfl)) Via.refl e0 f5 (g := (mkF m 1 #[vR mp, vR en, U] [(.ref mp)])) rfl rfl (hb hby d47_1)
 refine Rch.st (fun _ k => st747 _ k) ?_
 show Rch p e below T747 (mkF m 4 #[vR mp, vR en, U] [(.int 0)]) _
 refine w_iconst (pc' := 5) (v := 1) X747 hx hby d47_4 rfl rfl ?_
 refine w_icmpYes (pc' := 43) X747 hx hby d47_5 (XT.ii_ne_t (by decide)) (by decide) ?_
 refine w_aloadN (pc' := 44) X747 hx hby d47_43 rfl rfl rfl ?_
 obtain ⟨T748, X748, e748, st748⟩ := getF X747 hx hZ hown (host := "") (Or.inl (wi hw 319 rfl)) Via.refl e747 f7 (g := (mkF m 44 #[vR mp, vR en, U] [(.ref mp)])) rfl rfl (hb hby d47_44)
 refine Rch.st (fun _ k => st748 _ k) ?_
 show Rch p e below T748 (mkF m 47 #[vR mp, vR en, U] [.null]) _
 refine w_astoreN (pc' := 48) (l' := #[vR mp, vR en, vN]) X748 hx hby d47_47 rfl rfl rfl ?_
 refine w_aloadN (pc' := 49) X748 hx hby d47_48 rfl rfl rfl ?_
 refine w_aloadN (pc' := 50) X748 hx hby d47_49 rfl rfl rfl ?_
 obtain ⟨T749, h749, X749, e749, W749, st749⟩ := putF X748 hx hZ hown (host := "") (Or.inl (wi hw 319 rfl)) Via.refl e748 f7 f0 (Or.inl (wi hw 320 rfl)) (wi hw 38 rfl) (ty := (.object "java/util/LinkedHashMap$Entry")) (by decide) rfl rfl (g := (mkF m 50 #[vR mp, vR en, vN] [(.ref en), (.ref mp)])) rfl rfl (hb hby d47_50)
 have N750 := Fr.snoc X749 N0 gm
 have f751 := f0.wr W749
 have f752 := f1.other W749 (Or.inr (slot_ne (t := (.array (.object "java/util/HashMap$Node"))) (t' := (.object "java/util/LinkedHashMap$Entry")) (Or.inl (wi hw 146 rfl)) (Or.inl (wi hw 320 rfl)) (by decide) (by decide) (by decide)))
 have f753 := f2.other W749 (Or.inr (slot_ne (t := .int) (t' := (.object "java/util/LinkedHashMap$Entry")) (Or.inl (wi hw 142 rfl)) (Or.inl (wi hw 320 rfl)) (by decide) (by decide) (by decide)))
 have f754 := f3.other W749 (Or.inr (slot_ne (t := .int) (t' := (.object "java/util/LinkedHashMap$Entry")) (Or.inl (wi hw 155 rfl)) (Or.inl (wi hw 320 rfl)) (by decide) (by decide) (by decide)))
 have f755 := f4.other W749 (Or.inr (slot_ne (t := .int) (t' := (.object "java/util/LinkedHashMap$Entry")) (Or.inl (wi hw 144 rfl)) (Or.inl (wi hw 320 rfl)) (by decide) (by decide) (by decide)))
 have f756 := f5.other W749 (Or.inr (slot_ne (t := .int) (t' := (.object "java/util/LinkedHashMap$Entry")) (Or.inl (wi hw 60 rfl)) (Or.inl (wi hw 320 rfl)) (by decide) (by decide) (by decide)))
 have f757 := f6.other W749 (Or.inr (slot_ne (t := (.object "java/util/LinkedHashMap$Entry")) (t' := (.object "java/util/LinkedHashMap$Entry")) (Or.inl (wi hw 322 rfl)) (Or.inl (wi hw 320 rfl)) (by decide) (by decide) (by decide)))
 have f758 := f7.same W749
 have Kp760 : Keep h0 h749 [mp] := K00.wr W749 (Or.inl (List.mem_of_getElem? (i := 0) rfl))
 refine Rch.st (fun _ k => st749 _ k) ?_
 show Rch p e below T749 (mkF m 53 #[vR mp, vR en, vN] []) _
 refine w_aloadN (pc' := 54) X749 hx hby d47_53 rfl rfl rfl ?_
 refine w_nonnullNo (pc' := 57) X749 hx hby d47_54 (rfl) rfl ?_
 refine w_aloadN (pc' := 58) X749 hx hby d47_57 rfl rfl rfl ?_
 refine w_aloadN (pc' := 59) X749 hx hby d47_58 rfl rfl rfl ?_
 obtain ⟨T761, h761, X761, e761, W761, st761⟩ := putF X749 hx hZ hown (host := "") (Or.inl (wi hw 321 rfl)) Via.refl e749 f757 f751 (Or.inl (wi hw 322 rfl)) (wi hw 38 rfl) (ty := (.object "java/util/LinkedHashMap$Entry")) (by decide) rfl rfl (g := (mkF m 59 #[vR mp, vR en, vN] [(.ref en), (.ref mp)])) rfl rfl (hb hby d47_59)
 have N762 := Fr.snoc X761 N750 gm
 have f764 := f752.other W761 (Or.inr (slot_ne (t := (.array (.object "java/util/HashMap$Node"))) (t' := (.object "java/util/LinkedHashMap$Entry")) (Or.inl (wi hw 146 rfl)) (Or.inl (wi hw 322 rfl)) (by decide) (by decide) (by decide)))
 have f765 := f753.other W761 (Or.inr (slot_ne (t := .int) (t' := (.object "java/util/LinkedHashMap$Entry")) (Or.inl (wi hw 142 rfl)) (Or.inl (wi hw 322 rfl)) (by decide) (by decide) (by decide)))
 have f766 := f754.other W761 (Or.inr (slot_ne (t := .int) (t' := (.object "java/util/LinkedHashMap$Entry")) (Or.inl (wi hw 155 rfl)) (Or.inl (wi hw 322 rfl)) (by decide) (by decide) (by decide)))
 have f767 := f755.other W761 (Or.inr (slot_ne (t := .int) (t' := (.object "java/util/LinkedHashMap$Entry")) (Or.inl (wi hw 144 rfl)) (Or.inl (wi hw 322 rfl)) (by decide) (by decide) (by decide)))
 have f768 := f756.other W761 (Or.inr (slot_ne (t := .int) (t' := (.object "java/util/LinkedHashMap$Entry")) (Or.inl (wi hw 60 rfl)) (Or.inl (wi hw 322 rfl)) (by decide) (by decide) (by decide)))
 have f769 := f757.same W761
 have f770 := f758.other W761 (Or.inr (slot_ne (t := (.object "java/util/LinkedHashMap$Entry")) (t' := (.object "java/util/LinkedHashMap$Entry")) (Or.inl (wi hw 320 rfl)) (Or.inl (wi hw 322 rfl)) (by decide) (by decide) (by decide)))
 have Kp772 : Keep h0 h761 [mp] := Kp760.wr W761 (Or.inl (List.mem_of_getElem? (i := 0) rfl))
 refine Rch.st (fun _ k => st761 _ k) ?_
 show Rch p e below T761 (mkF m 62 #[vR mp, vR en, vN] []) _
 refine w_goto (pc' := 75) X761 hx hby d47_62 (by decide) ?_
 exact Rch.ret0 X761 hx Bd.returns (hb hby d47_75) (by rw [e761]; exact ⟨rfl, N762, Kp772, f764, f765, f766, f767, f768, f769, f770⟩) (by decide) (by decide)

abbrev c48 : ByteArray := jdk_94_method_4_code
theorem d48_0 : decode c48 0 = .ok (.new 15, 3) := by decide +kernel
theorem d48_3 : decode c48 3 = .ok (.dup, 1) := by decide +kernel
theorem d48_4 : decode c48 4 = .ok (.iload_n 1, 1) := by decide +kernel
theorem d48_5 : decode c48 5 = .ok (.aload_n 2, 1) := by decide +kernel
theorem d48_6 : decode c48 6 = .ok (.aload_n 3, 1) := by decide +kernel
theorem d48_7 : decode c48 7 = .ok (.aload 4, 2) := by decide +kernel
theorem d48_9 : decode c48 9 = .ok (.invokespecial 28, 3) := by decide +kernel
theorem d48_12 : decode c48 12 = .ok (.astore 5, 2) := by decide +kernel
theorem d48_14 : decode c48 14 = .ok (.aload_n 0, 1) := by decide +kernel
theorem d48_15 : decode c48 15 = .ok (.aload 5, 2) := by decide +kernel
theorem d48_17 : decode c48 17 = .ok (.invokevirtual 32, 3) := by decide +kernel
theorem d48_20 : decode c48 20 = .ok (.aload 5, 2) := by decide +kernel
theorem d48_22 : decode c48 22 = .ok (.areturn, 1) := by decide +kernel
theorem ef_rm_nn (m : MethodId) (mp : Addr) (t : Addr) (hs : Int32) (ky : Addr) (nv : Addr)  : entryFrame m #[(.ref mp), (.int hs), (.ref ky), (.ref nv), .null] 6 = mkF m 0 #[vR mp, vI hs, vR ky, vR nv, vN, U] [] := by  first | (simp [entryFrame, mkF, argsToLocals, Value.category, maxLocals]; done) | rfl
def Q_rm_nn (Z : State) (mp : Addr) (t : Addr) (hs : Int32) (ky : Addr) (nv : Addr) (h0 : Heap) (n0 : Nat) (v : Option Value) (h : Heap) (L : List Loc) : Prop := ∃ (en : Addr), (v = some (.ref en)) ∧ (Fr n0 L) ∧ (Keep h0 h [mp]) ∧ (h0.size ≤ en) ∧ (Exa Z h en "java/util/LinkedHashMap$Entry") ∧ (Fld Z h mp "java/util/HashMap" "table" "[Ljava/util/HashMap$Node;" (.ref t)) ∧ (Fld Z h mp "java/util/HashMap" "size" "I" (.int (0 : Int32))) ∧ (Fld Z h mp "java/util/HashMap" "modCount" "I" (.int (0 : Int32))) ∧ (Fld Z h mp "java/util/HashMap" "threshold" "I" (.int (12 : Int32))) ∧ (Fld Z h mp "java/util/LinkedHashMap" "putMode" "I" (.int (0 : Int32))) ∧ (Fld Z h mp "java/util/LinkedHashMap" "head" "Ljava/util/LinkedHashMap$Entry;" (.ref en)) ∧ (Fld Z h mp "java/util/LinkedHashMap" "tail" "Ljava/util/LinkedHashMap$Entry;" (.ref en))
theorem pd__Ljava_util_LinkedHashMap_Entry__V : parseMethodDescriptor "(Ljava/util/LinkedHashMap$Entry;)V" = some ⟨[(.object "java/util/LinkedHashMap$Entry")], none⟩ := by decide +kernel
set_option maxRecDepth 65536 in
set_option maxHeartbeats 40000000 in
theorem rm_nn (l : Launch) (Z : State) (a0 : Array Value) (hw : ∀ d ∈ tables_1, d.before a0 Z = true) (ws : List Jvm.Cond) (mp : Addr) (t : Addr) (hs : Int32) (ky : Addr) (nv : Addr) (h0 : Heap) (n0 : Nat) (Z0 : n0 ≤ h0.size) (f0 : Exa Z h0 mp "java/util/LinkedHashMap") (f1 : Fld Z h0 mp "java/util/HashMap" "table" "[Ljava/util/HashMap$Node;" (.ref t)) (f2 : Fld Z h0 mp "java/util/HashMap" "size" "I" (.int (0 : Int32))) (f3 : Fld Z h0 mp "java/util/HashMap" "modCount" "I" (.int (0 : Int32))) (f4 : Fld Z h0 mp "java/util/HashMap" "threshold" "I" (.int (12 : Int32))) (f5 : Fld Z h0 mp "java/util/LinkedHashMap" "putMode" "I" (.int (0 : Int32))) (f6 : Fld Z h0 mp "java/util/LinkedHashMap" "head" "Ljava/util/LinkedHashMap$Entry;" .null) (f7 : Fld Z h0 mp "java/util/LinkedHashMap" "tail" "Ljava/util/LinkedHashMap$Entry;" .null) (gm : n0 ≤ mp) :
    MetN l Z y_51 c48 6 (some (.object "java/util/HashMap$Node")) ws (Rm 3 1 6 45) #[(.ref mp), (.int hs), (.ref ky), (.ref nv), .null] h0 (Q_rm_nn Z mp t hs ky nv h0 n0) := by
 refine MetFree.of_bodySF (plainFor_of_name pn_java_util_LinkedHashMap) hisR ?_
 intro p e s m args below meth c s₁ Bd hml0 hP hK
 obtain ⟨rfl, hZ, hh⟩ := hP
 have hx := Bd.exec
 have hby := Bd.bytes
 have hml : c.maxLocals = 6 := hml0
 have hown : s.vm.findClass "java/util/LinkedHashMap" = some m.cls := findClass_of_methodNamed Bd.named
 have X0 : Stand p l e (Rm 3 1 6 45) s m #[(.ref mp), (.int hs), (.ref ky), (.ref nv), .null] below meth c s₁ [] 0 0 := Stand.of_body Bd
 have e0 : s₁.heap = h0 := by rw [← hh, Bd.state]; rfl
 have N0 := Fr.nil n0
 have K00 : Keep h0 h0 [mp] := Keep.refl _ _
 show Rch p e below s₁ (entryFrame m #[(.ref mp), (.int hs), (.ref ky), (.ref nv), .null] 6) (FinP s (Q_rm_nn Z mp t hs ky nv h0 n0) 1 6)
 refine Rch.cast (ef_rm_nn m mp t hs ky nv) ?_
 show Rch p e below s₁ (mkF m 0 #[vR mp, vI hs, vR ky, vR nv, vN, U] []) _
 obtain ⟨T773, h773, X773, e773, E773, A773, D773, -, st773⟩ := newO X0 hx hZ hown (wi hw 292 rfl) (wi hw 293 rfl) (wi hw 294 rfl) e0 (g := (mkF m 0 #[vR mp, vI hs, vR ky, vR nv, vN, U] [])) rfl (hb hby d48_0) (by decide) (by decide)
 obtain ⟨a773, g773⟩ : ∃ z, z = h0.size := ⟨_, rfl⟩
 rw [← g773] at A773 D773 st773
 have ne774 : mp ≠ a773 := by rw [g773]; exact Nat.ne_of_lt f0.lt
 have ge775 : n0 ≤ a773 := Nat.le_trans Z0 (Nat.le_of_eq g773.symm)
 have f777 := f0.ext E773
 have f778 := f1.ext E773
 have f779 := f2.ext E773
 have f780 := f3.ext E773
 have f781 := f4.ext E773
 have f782 := f5.ext E773
 have f783 := f6.ext E773
 have f784 := f7.ext E773
 have Z785 := Nat.le_trans Z0 E773.1
 have Kp786 : Keep h0 h773 [mp] := K00.ext E773
 have f787 : Fld Z h773 a773 "java/util/HashMap$Node" "hash" "I" (.int (0 : Int32)) := D773 (Or.inr (wi hw 307 rfl)) (ty := .int) (by decide)
 have f788 : Fld Z h773 a773 "java/util/HashMap$Node" "key" "Ljava/lang/Object;" .null := D773 (Or.inr (wi hw 309 rfl)) (ty := (.object "java/lang/Object")) (by decide)
 have f789 : Fld Z h773 a773 "java/util/HashMap$Node" "value" "Ljava/lang/Object;" .null := D773 (Or.inl (wi hw 311 rfl)) (ty := (.object "java/lang/Object")) (by decide)
 have f790 : Fld Z h773 a773 "java/util/HashMap$Node" "next" "Ljava/util/HashMap$Node;" .null := D773 (Or.inl (wi hw 313 rfl)) (ty := (.object "java/util/HashMap$Node")) (by decide)
 refine Rch.st (fun _ k => st773 _ k) ?_
 show Rch p e below T773 (mkF m 3 #[vR mp, vI hs, vR ky, vR nv, vN, U] [(.ref a773)]) _
 refine w_dup (pc' := 4) X773 hx hby d48_3 rfl rfl ?_
 refine w_iloadN (pc' := 5) X773 hx hby d48_4 rfl rfl ?_
 refine w_aloadN (pc' := 6) X773 hx hby d48_5 rfl rfl rfl ?_
 refine w_aloadN (pc' := 7) X773 hx hby d48_6 rfl rfl rfl ?_
 refine w_aload (pc' := 9) X773 hx hby d48_7 rfl rfl rfl ?_
 obtain ⟨_, _, ⟨T791, L791, k791, n791⟩, -, X791, ⟨Lc791, hQ791, l791, y791, z791⟩, st791⟩ := X773.specialBack hx (y := y_49) rfl hown (mvT hZ (wi hw 295 rfl)) (mvT hZ (wi hw 296 rfl)) (mvT hZ (wi hw 298 rfl)) (by decide) (backOf (W := 1) (rm_en_ l Z a0 hw [] a773 hs ky nv h773 n0 Z785 A773 f787 f788 f789 f790 (ge775)) hZ (wi hw 298 rfl) (wi hw 294 rfl) (by decide) (by decide)) (g := (mkF m 9 #[vR mp, vI hs, vR ky, vR nv, vN, U] [.null, (.ref nv), (.ref ky), (.int hs), (.ref a773), (.ref a773)])) rfl (by rw [hml]; rfl) (Steps.refl _) (a := a773) (argsL := [(.int hs), (.ref ky), (.ref nv), .null]) (rest := [(.ref a773)]) (lenOf pd__ILjava_lang_Object_Ljava_lang_Object_Ljava_util_HashMap_Node__V rfl) rfl (by show 2 * 0 + _ ≤ _; exact Nat.le_of_eq rfl) (hb hby d48_9) (fun _ _ => ⟨rfl, e773, (by decide : 1 + 0 ≤ _), (by decide : 6 + 0 ≤ _)⟩)
 dsimp only [Pt.U, Pt.locs, Pt.cells, Pt.slots] at X791 l791 y791 z791 st791 hQ791
 subst l791 y791 z791
 obtain ⟨rfl, NQ791, K791⟩ := hQ791
 have N792 := Fr.app N0 NQ791
 have f793 := f777.keep K791
 have f794 := f778.keep K791 (ninS ne774 nin0)
 have f795 := f779.keep K791 (ninS ne774 nin0)
 have f796 := f780.keep K791 (ninS ne774 nin0)
 have f797 := f781.keep K791 (ninS ne774 nin0)
 have f798 := f782.keep K791 (ninS ne774 nin0)
 have f799 := f783.keep K791 (ninS ne774 nin0)
 have f800 := f784.keep K791 (ninS ne774 nin0)
 have f801 := A773.keep K791
 have Kp802 : Keep h0 T791.heap [mp] := Kp786.trans K791 (allS (Or.inr (Nat.le_trans K00.1 (Nat.le_of_eq g773.symm))) all0)
 have Z803 := Nat.le_trans Z785 K791.1
 refine Rch.st (fun _ k => st791.trans k) ?_
 show Rch p e below T791 (mkF m 12 #[vR mp, vI hs, vR ky, vR nv, vN, U] [(.ref a773)]) _
 refine w_astore (pc' := 14) (l' := #[vR mp, vI hs, vR ky, vR nv, vN, vR a773]) X791 hx hby d48_12 rfl rfl rfl ?_
 refine w_aloadN (pc' := 15) X791 hx hby d48_14 rfl rfl rfl ?_
 refine w_aload (pc' := 17) X791 hx hby d48_15 rfl rfl rfl ?_
 obtain ⟨cq804, q804a, q804b⟩ := f793.cell
 obtain ⟨_, _, ⟨T804, L804, k804, n804⟩, -, X804, ⟨Lc804, hQ804, l804, y804, z804⟩, st804⟩ := X791.privateBack hx (y := y_50) hown (mvT hZ (wi hw 314 rfl)) (mvT hZ (wi hw 315 rfl)) (own_selP (mvT hZ (wi hw 38 rfl)) (Cond.privateMethod_at (mvP hZ (wi hw 316 rfl) (args := #[]))) (mvT hZ (wi hw 315 rfl)) (by decide)) (Cond.privateMethod_at (mvP hZ (wi hw 316 rfl) (args := #[]))) (mvT hZ (wi hw 318 rfl)) (by decide) (backOf (W := 0) (rm_lk l Z a0 hw [] mp t a773 T791.heap n0 Z803 f793 f794 f795 f796 f797 f798 f799 f800 (gm)) hZ (wi hw 318 rfl) (wi hw 39 rfl) (by decide) (by decide)) (g := (mkF m 17 #[vR mp, vI hs, vR ky, vR nv, vN, vR a773] [(.ref a773), (.ref mp)])) rfl (by rw [hml]; rfl) (Steps.refl _) (a := mp) (by rw [(rfl : T791.heap = T791.heap)]; exact q804a) q804b (argsL := [(.ref a773)]) (rest := []) (lenOf pd__Ljava_util_LinkedHashMap_Entry__V rfl) rfl (by show 2 * 0 + _ ≤ _; exact Nat.le_of_eq rfl) (hb hby d48_17) (fun _ _ => ⟨rfl, (rfl : T791.heap = T791.heap), (by decide : 1 + 0 ≤ _), (by decide : 6 + 0 ≤ _)⟩)
 dsimp only [Pt.U, Pt.locs, Pt.cells, Pt.slots] at X804 l804 y804 z804 st804 hQ804
 subst l804 y804 z804
 obtain ⟨rfl, NQ804, K804, fq804_0, fq804_1, fq804_2, fq804_3, fq804_4, fq804_5, fq804_6⟩ := hQ804
 have N805 := Fr.app N792 NQ804
 have f807 := f801.keep K804
 have Kp808 : Keep h0 T804.heap [mp] := Kp802.trans K804 (allS (Or.inl (List.mem_of_getElem? (i := 0) rfl)) all0)
 refine Rch.st (fun _ k => st804.trans k) ?_
 show Rch p e below T804 (mkF m 20 #[vR mp, vI hs, vR ky, vR nv, vN, vR a773] []) _
 refine w_aload (pc' := 22) X804 hx hby d48_20 rfl rfl rfl ?_
 exact Rch.retV X804 hx Bd.returns rfl (Or.inr (Or.inr (Or.inr (Or.inr ⟨rfl, rfl, rfl⟩)))) (hb hby d48_22) (by rw [(rfl : T804.heap = T804.heap)]; exact ⟨a773, rfl, N805, Kp808, (Nat.le_trans K00.1 (Nat.le_of_eq g773.symm)), f807, fq804_0, fq804_1, fq804_2, fq804_3, fq804_4, fq804_5, fq804_6⟩) (by decide) (by decide)

abbrev c49 : ByteArray := jdk_94_method_23_code
theorem d49_0 : decode c49 0 = .ok (.iconst 0, 1) := by decide +kernel
theorem d49_1 : decode c49 1 = .ok (.ireturn, 1) := by decide +kernel
theorem ef_rm_re (m : MethodId) (mp : Addr) (en : Addr)  : entryFrame m #[(.ref mp), (.ref en)] 2 = mkF m 0 #[vR mp, vR en] [] := by  first | (simp [entryFrame, mkF, argsToLocals, Value.category, maxLocals]; done) | rfl
def Q_rm_re (Z : State) (mp : Addr) (en : Addr) (h0 : Heap) (n0 : Nat) (v : Option Value) (h : Heap) (L : List Loc) : Prop := (v = some (.int (0 : Int32))) ∧ (Fr n0 L) ∧ (h = h0)
set_option maxRecDepth 65536 in
set_option maxHeartbeats 40000000 in
theorem rm_re (l : Launch) (Z : State) (a0 : Array Value) (hw : ∀ d ∈ tables_1, d.before a0 Z = true) (ws : List Jvm.Cond) (mp : Addr) (en : Addr) (h0 : Heap) (n0 : Nat) (Z0 : n0 ≤ h0.size)  :
    MetN l Z y_52 c49 2 (some .boolean) ws (Rm 0 0 0 0) #[(.ref mp), (.ref en)] h0 (Q_rm_re Z mp en h0 n0) := by
 refine MetFree.of_bodySF (plainFor_of_name pn_java_util_LinkedHashMap) hisR ?_
 intro p e s m args below meth c s₁ Bd hml0 hP hK
 obtain ⟨rfl, hZ, hh⟩ := hP
 have hx := Bd.exec
 have hby := Bd.bytes
 have hml : c.maxLocals = 2 := hml0
 have hown : s.vm.findClass "java/util/LinkedHashMap" = some m.cls := findClass_of_methodNamed Bd.named
 have X0 : Stand p l e (Rm 0 0 0 0) s m #[(.ref mp), (.ref en)] below meth c s₁ [] 0 0 := Stand.of_body Bd
 have e0 : s₁.heap = h0 := by rw [← hh, Bd.state]; rfl
 have N0 := Fr.nil n0
 have K00 : Keep h0 h0 [] := Keep.refl _ _
 show Rch p e below s₁ (entryFrame m #[(.ref mp), (.ref en)] 2) (FinP s (Q_rm_re Z mp en h0 n0) 0 0)
 refine Rch.cast (ef_rm_re m mp en) ?_
 show Rch p e below s₁ (mkF m 0 #[vR mp, vR en] []) _
 refine w_iconst (pc' := 1) (v := 0) X0 hx hby d49_0 rfl rfl ?_
 exact Rch.retV X0 hx Bd.returns rfl (Or.inl ⟨rfl, by simp, _, rfl⟩) (hb hby d49_1) (by rw [e0]; exact ⟨rfl, N0, rfl⟩) (by decide) (by decide)

abbrev c50 : ByteArray := jdk_94_method_9_code
theorem d50_0 : decode c50 0 = .ok (.iload_n 1, 1) := by decide +kernel
theorem d50_1 : decode c50 1 = .ok (.ifCond .eq 38, 3) := by decide +kernel
theorem d50_4 : decode c50 4 = .ok (.aload_n 0, 1) := by decide +kernel
theorem d50_5 : decode c50 5 = .ok (.getfield 7, 3) := by decide +kernel
theorem d50_8 : decode c50 8 = .ok (.dup, 1) := by decide +kernel
theorem d50_9 : decode c50 9 = .ok (.astore_n 2, 1) := by decide +kernel
theorem d50_10 : decode c50 10 = .ok (.ifnull 29, 3) := by decide +kernel
theorem d50_13 : decode c50 13 = .ok (.aload_n 0, 1) := by decide +kernel
theorem d50_14 : decode c50 14 = .ok (.aload_n 2, 1) := by decide +kernel
theorem d50_15 : decode c50 15 = .ok (.invokevirtual 53, 3) := by decide +kernel
theorem d50_18 : decode c50 18 = .ok (.ifCond .eq 21, 3) := by decide +kernel
theorem d50_39 : decode c50 39 = .ok (.return_, 1) := by decide +kernel
theorem ef_rm_ai (m : MethodId) (mp : Addr) (en : Addr)  : entryFrame m #[(.ref mp), (.int (1 : Int32))] 4 = mkF m 0 #[vR mp, vI 1, U, U] [] := by  first | (simp [entryFrame, mkF, argsToLocals, Value.category, maxLocals]; done) | rfl
def Q_rm_ai (Z : State) (mp : Addr) (en : Addr) (h0 : Heap) (n0 : Nat) (v : Option Value) (h : Heap) (L : List Loc) : Prop := (v = none) ∧ (Fr n0 L) ∧ (h = h0)
theorem pd__Ljava_util_Map_Entry__Z : parseMethodDescriptor "(Ljava/util/Map$Entry;)Z" = some ⟨[(.object "java/util/Map$Entry")], (some .boolean)⟩ := by decide +kernel
set_option maxRecDepth 65536 in
set_option maxHeartbeats 40000000 in
theorem rm_ai (l : Launch) (Z : State) (a0 : Array Value) (hw : ∀ d ∈ tables_1, d.before a0 Z = true) (ws : List Jvm.Cond) (mp : Addr) (en : Addr) (h0 : Heap) (n0 : Nat) (Z0 : n0 ≤ h0.size) (f0 : Exa Z h0 mp "java/util/LinkedHashMap") (f1 : Fld Z h0 mp "java/util/LinkedHashMap" "head" "Ljava/util/LinkedHashMap$Entry;" (.ref en)) :
    MetN l Z y_53 c50 4 none ws (Rm 1 0 0 13) #[(.ref mp), (.int (1 : Int32))] h0 (Q_rm_ai Z mp en h0 n0) := by
 refine MetFree.of_bodySF (plainFor_of_name pn_java_util_LinkedHashMap) hisR ?_
 intro p e s m args below meth c s₁ Bd hml0 hP hK
 obtain ⟨rfl, hZ, hh⟩ := hP
 have hx := Bd.exec
 have hby := Bd.bytes
 have hml : c.maxLocals = 4 := hml0
 have hown : s.vm.findClass "java/util/LinkedHashMap" = some m.cls := findClass_of_methodNamed Bd.named
 have X0 : Stand p l e (Rm 1 0 0 13) s m #[(.ref mp), (.int (1 : Int32))] below meth c s₁ [] 0 0 := Stand.of_body Bd
 have e0 : s₁.heap = h0 := by rw [← hh, Bd.state]; rfl
 have N0 := Fr.nil n0
 have K00 : Keep h0 h0 [] := Keep.refl _ _
 show Rch p e below s₁ (entryFrame m #[(.ref mp), (.int (1 : Int32))] 4) (FinP s (Q_rm_ai Z mp en h0 n0) 0 0)
 refine Rch.cast (ef_rm_ai m mp en) ?_
 show Rch p e below s₁ (mkF m 0 #[vR mp, vI 1, U, U] []) _
 refine w_iloadN (pc' := 1) X0 hx hby d50_0 rfl rfl ?_
 refine w_ifNo (pc' := 4) X0 hx hby d50_1 (XT.i0_eq_f (by decide)) rfl ?_
 refine w_aloadN (pc' := 5) X0 hx hby d50_4 rfl rfl rfl ?_
 obtain ⟨T810, X810, e810, st810⟩ := getF X0 hx hZ hown (host := "") (Or.inl (wi hw 321 rfl)) Via.refl e0 f1 (g := (mkF m 5 #[vR mp, vI 1, U, U] [(.ref mp)])) rfl rfl (hb hby d50_5)
 refine Rch.st (fun _ k => st810 _ k) ?_
 show Rch p e below T810 (mkF m 8 #[vR mp, vI 1, U, U] [(.ref en)]) _
 refine w_dup (pc' := 9) X810 hx hby d50_8 rfl rfl ?_
 refine w_astoreN (pc' := 10) (l' := #[vR mp, vI 1, vR en, U]) X810 hx hby d50_9 rfl rfl rfl ?_
 refine w_nullNo (pc' := 13) X810 hx hby d50_10 rfl (fun q => nomatch q) rfl ?_
 refine w_aloadN (pc' := 14) X810 hx hby d50_13 rfl rfl rfl ?_
 refine w_aloadN (pc' := 15) X810 hx hby d50_14 rfl rfl rfl ?_
 obtain ⟨cq811, kq811, q811a, q811b, q811c⟩ := isOf hZ e810 f0
 obtain ⟨_, _, ⟨T811, L811, k811, n811⟩, -, X811, ⟨Lc811, hQ811, l811, y811, z811⟩, st811⟩ := X810.virtualBack hx (y := y_52) (z := y_52) hown (mvT hZ (wi hw 329 rfl)) (mvT hZ (wi hw 330 rfl)) (notFace_of_selects (args := #[]) (mvT hZ (wi hw 332 rfl))) (mvT hZ (wi hw 332 rfl)) (mvT hZ (wi hw 331 rfl)) (by decide) (backOf (W := 0) (rm_re l Z a0 hw [] mp en h0 n0 Z0 ) hZ (wi hw 333 rfl) (wi hw 39 rfl) (by decide) (by decide)) q811a q811c (g := (mkF m 15 #[vR mp, vI 1, vR en, U] [(.ref en), (.ref mp)])) rfl (by rw [hml]; rfl) (Steps.refl _) (argsL := [(.ref en)]) (rest := []) (lenOf pd__Ljava_util_Map_Entry__Z rfl) rfl (by show 2 * 0 + _ ≤ _; exact Nat.le_of_eq rfl) (hb hby d50_15) (fun _ _ => ⟨rfl, e810, (by decide : 0 + 0 ≤ _), (by decide : 0 + 0 ≤ _)⟩)
 dsimp only [Pt.U, Pt.locs, Pt.cells, Pt.slots] at X811 l811 y811 z811 st811 hQ811
 subst l811 y811 z811
 obtain ⟨rfl, NQ811, K811⟩ := hQ811
 have N812 := Fr.app N0 NQ811
 refine Rch.st (fun _ k => st811.trans k) ?_
 show Rch p e below T811 (mkF m 18 #[vR mp, vI 1, vR en, U] [(.int 0)]) _
 refine w_ifYes (pc' := 39) X811 hx hby d50_18 (XT.i0_eq_t (by decide)) (by decide) ?_
 exact Rch.ret0 X811 hx Bd.returns (hb hby d50_39) (by rw [K811]; exact ⟨rfl, N812, rfl⟩) (by decide) (by decide)

abbrev c51 : ByteArray := prog_50_method_15_code
theorem d51_0 : decode c51 0 = .ok (.new 2, 3) := by decide +kernel
theorem d51_3 : decode c51 3 = .ok (.dup, 1) := by decide +kernel
theorem d51_4 : decode c51 4 = .ok (.aload_n 1, 1) := by decide +kernel
theorem d51_5 : decode c51 5 = .ok (.invokevirtual 119, 3) := by decide +kernel
theorem d51_8 : decode c51 8 = .ok (.invokevirtual 121, 3) := by decide +kernel
theorem d51_11 : decode c51 11 = .ok (.ifCond .eq 10, 3) := by decide +kernel
theorem d51_21 : decode c51 21 = .ok (.new 124, 3) := by decide +kernel
theorem d51_24 : decode c51 24 = .ok (.dup, 1) := by decide +kernel
theorem d51_25 : decode c51 25 = .ok (.invokespecial 126, 3) := by decide +kernel
theorem d51_28 : decode c51 28 = .ok (.aload_n 0, 1) := by decide +kernel
theorem d51_29 : decode c51 29 = .ok (.getfield 29, 3) := by decide +kernel
theorem d51_32 : decode c51 32 = .ok (.invokevirtual 127, 3) := by decide +kernel
theorem d51_35 : decode c51 35 = .ok (.ldc 131, 2) := by decide +kernel
theorem d51_37 : decode c51 37 = .ok (.invokevirtual 127, 3) := by decide +kernel
theorem d51_40 : decode c51 40 = .ok (.aload_n 1, 1) := by decide +kernel
theorem d51_41 : decode c51 41 = .ok (.invokevirtual 119, 3) := by decide +kernel
theorem d51_44 : decode c51 44 = .ok (.invokevirtual 127, 3) := by decide +kernel
theorem d51_47 : decode c51 47 = .ok (.invokevirtual 133, 3) := by decide +kernel
theorem d51_50 : decode c51 50 = .ok (.aconst_null, 1) := by decide +kernel
theorem d51_51 : decode c51 51 = .ok (.aconst_null, 1) := by decide +kernel
theorem d51_52 : decode c51 52 = .ok (.aload_n 0, 1) := by decide +kernel
theorem d51_53 : decode c51 53 = .ok (.invokespecial 1, 3) := by decide +kernel
theorem d51_56 : decode c51 56 = .ok (.areturn, 1) := by decide +kernel
theorem ef_rm_lam_n1 (m : MethodId) (G1 : Int32) (G6 : Addr) (th : Addr) (nm : Addr) (fd : Addr) (fs : Addr) (fb : Addr) (kfb : ClassId) (fv : List Value) (fdd : Value) (nb : Addr) (knb : ClassId) (nv_ : List Value) (ndd : Value) (ky : Addr)  : entryFrame m #[(.ref th), (.ref fd), (.ref ky)] 3 = mkF m 0 #[vR th, vR fd, vR ky] [] := by  first | (simp [entryFrame, mkF, argsToLocals, Value.category, maxLocals]; done) | rfl
def Q_rm_lam_n1 (Z : State) (G1 : Int32) (G6 : Addr) (th : Addr) (nm : Addr) (fd : Addr) (fs : Addr) (fb : Addr) (kfb : ClassId) (fv : List Value) (fdd : Value) (nb : Addr) (knb : ClassId) (nv_ : List Value) (ndd : Value) (ky : Addr) (h0 : Heap) (n0 : Nat) (v : Option Value) (h : Heap) (vm : Vm) (L : List Loc) : Prop := ∃ (nv : Addr) (m2 : Addr) (ns : Addr) (ts : Addr) (kts : ClassId) (tv : List Value) (sa : Addr) (sbb : Addr) (ksb : ClassId), (v = some (.ref nv)) ∧ (Fr n0 L) ∧ (Keep h0 h []) ∧ (h0.size ≤ nv) ∧ (h0.size ≤ m2) ∧ (h0.size ≤ ns) ∧ (h0.size ≤ ts) ∧ (Exa Z h nv "com/example/mandoline/mandoline/Variable") ∧ (Fld Z h nv "com/example/mandoline/mandoline/Variable" "fields" "Ljava/util/Map;" (.ref m2)) ∧ (Fld Z h nv "com/example/mandoline/mandoline/Variable" "name" "Ljava/lang/String;" (.ref ns)) ∧ (Fld Z h nv "com/example/mandoline/mandoline/Variable" "containing" "Lcom/example/mandoline/mandoline/Variable;" (.ref th)) ∧ (Exa Z h m2 "java/util/LinkedHashMap") ∧ (Fld Z h m2 "java/util/HashMap" "table" "[Ljava/util/HashMap$Node;" .null) ∧ (Fld Z h m2 "java/util/HashMap" "size" "I" (.int (0 : Int32))) ∧ (Fld Z h m2 "java/util/HashMap" "modCount" "I" (.int (0 : Int32))) ∧ (Fld Z h m2 "java/util/HashMap" "threshold" "I" (.int (0 : Int32))) ∧ (Fld Z h m2 "java/util/LinkedHashMap" "putMode" "I" (.int (0 : Int32))) ∧ (Fld Z h m2 "java/util/LinkedHashMap" "head" "Ljava/util/LinkedHashMap$Entry;" .null) ∧ (Fld Z h m2 "java/util/LinkedHashMap" "tail" "Ljava/util/LinkedHashMap$Entry;" .null) ∧ (Exa Z h ns "java/lang/String") ∧ (Fld Z h ns "java/lang/String" "coder" "B" (.int (0 : Int32))) ∧ (Fld Z h ns "java/lang/String" "value" "[B" (.ref ts)) ∧ (Arv Z h ts kts .byte (3 : Int32) tv (.int (0 : Int32))) ∧ (Exa Z h sa "java/lang/String") ∧ (Fld Z h sa "java/lang/String" "coder" "B" (.int (0 : Int32))) ∧ (Fld Z h sa "java/lang/String" "value" "[B" (.ref sbb)) ∧ (Arv Z h sbb ksb .byte (1 : Int32) [(.int (46 : Int32))] (.int (0 : Int32))) ∧ (IB Z vm (["."] : List String)) ∧ (Lit (Z.setVm vm) "com/example/mandoline/mandoline/Variable" 131 sa)
theorem pd___Ljava_lang_String_ : parseMethodDescriptor "()Ljava/lang/String;" = some ⟨[], (some (.object "java/lang/String"))⟩ := by decide +kernel
theorem pd__Ljava_lang_String__Ljava_lang_StringBuilder_ : parseMethodDescriptor "(Ljava/lang/String;)Ljava/lang/StringBuilder;" = some ⟨[(.object "java/lang/String")], (some (.object "java/lang/StringBuilder"))⟩ := by decide +kernel
theorem pd__Ljava_lang_String_Lcom_example_mandoline_mandoline_ClangNode_Ljava_lang_String_Lcom_example_mandoline_mandoline_Variable__V : parseMethodDescriptor "(Ljava/lang/String;Lcom/example/mandoline/mandoline/ClangNode;Ljava/lang/String;Lcom/example/mandoline/mandoline/Variable;)V" = some ⟨[(.object "java/lang/String"), (.object "com/example/mandoline/mandoline/ClangNode"), (.object "java/lang/String"), (.object "com/example/mandoline/mandoline/Variable")], none⟩ := by decide +kernel
set_option maxRecDepth 65536 in
set_option maxHeartbeats 40000000 in
theorem rm_lam_n1 (l : Launch) (Z : State) (a0 : Array Value) (hw : ∀ d ∈ tables_1, d.before a0 Z = true) (ws : List Jvm.Cond) (G1 : Int32) (G6 : Addr) (th : Addr) (nm : Addr) (fd : Addr) (fs : Addr) (fb : Addr) (kfb : ClassId) (fv : List Value) (fdd : Value) (nb : Addr) (knb : ClassId) (nv_ : List Value) (ndd : Value) (ky : Addr) (h0 : Heap) (n0 : Nat) (Z0 : n0 ≤ h0.size) (O2 : Sta Z Z.heap "java/lang/String" "COMPACT_STRINGS" "Z" (.int G1)) (P5 : ¬ G1 = 0) (O6 : Sta Z Z.heap "java/util/ImmutableCollections" "EMPTY_LIST" "Ljava/util/ImmutableCollections$ListN;" (.ref G6)) (f3 : Exa Z h0 th "com/example/mandoline/mandoline/Variable") (f4 : Fld Z h0 th "com/example/mandoline/mandoline/Variable" "name" "Ljava/lang/String;" (.ref nm)) (f5 : Exa Z h0 fd "com/example/mandoline/mandoline/Place$Field") (f6 : Fld Z h0 fd "com/example/mandoline/mandoline/Place$Field" "name" "Ljava/lang/String;" (.ref fs)) (f7 : Exa Z h0 fs "java/lang/String") (f8 : Fld Z h0 fs "java/lang/String" "coder" "B" (.int (0 : Int32))) (f9 : Fld Z h0 fs "java/lang/String" "value" "[B" (.ref fb)) (f10 : Arv Z h0 fb kfb .byte (1 : Int32) fv fdd) (f11 : Exa Z h0 nm "java/lang/String") (f12 : Fld Z h0 nm "java/lang/String" "coder" "B" (.int (0 : Int32))) (f13 : Fld Z h0 nm "java/lang/String" "value" "[B" (.ref nb)) (f14 : Arv Z h0 nb knb .byte (1 : Int32) nv_ ndd) (H131 : Jvm.Lit.constHeld Z "com/example/mandoline/mandoline/Variable" 131) (hcw : Jvm.Lit.compactW.before a0 Z = true) (Old0 : OldL Z n0 h0) :
    MetW l Z y_1 c51 3 (some (.object "com/example/mandoline/mandoline/Variable")) ws (Rm 6 8 66 93) #[(.ref th), (.ref fd), (.ref ky)] h0 (fun vm => IB Z vm ([] : List String)) (Q_rm_lam_n1 Z G1 G6 th nm fd fs fb kfb fv fdd nb knb nv_ ndd ky h0 n0) := by
 refine MetFree.of_bodySF (plainFor_of_name pn_com_example_mandoline_mandoline_Variable) hisR ?_
 intro p e s m args below meth c s₁ Bd hml0 hP hK
 obtain ⟨rfl, hZ, hh, hI⟩ := hP
 have hx := Bd.exec
 have hby := Bd.bytes
 have hml : c.maxLocals = 3 := hml0
 have hown : s.vm.findClass "com/example/mandoline/mandoline/Variable" = some m.cls := findClass_of_methodNamed Bd.named
 have X0 : Stand p l e (Rm 6 8 66 93) (s.setVm s.vm) m #[(.ref th), (.ref fd), (.ref ky)] below meth c s₁ [] 0 0 := Stand.of_body Bd
 have e0 : s₁.heap = h0 := by rw [← hh, Bd.state]; rfl
 have N0 := Fr.nil n0
 have K00 : Keep h0 h0 [] := Keep.refl _ _
 have hS0 : s.Since s.vm s.heap.size := (State.WarmedH.refl s).since _
 have hk0 : s.heap.size ≤ h0.size := by rw [hh]; exact Nat.le_refl _
 have hkeep : ∀ (b : Addr) (cl : Cell), Z.heap[b]? = some cl → s.heap[b]? = some cl := by rw [hh]; exact Old0.2.2
 show Rch p e below s₁ (entryFrame m #[(.ref th), (.ref fd), (.ref ky)] 3) (FinW s (Q_rm_lam_n1 Z G1 G6 th nm fd fs fb kfb fv fdd nb knb nv_ ndd ky h0 n0) 8 66)
 refine Rch.cast (ef_rm_lam_n1 m G1 G6 th nm fd fs fb kfb fv fdd nb knb nv_ ndd ky) ?_
 have Z0f := Nat.le_refl h0.size
 have N0f := Fr.nil h0.size
 have OldF := Old0.up Z0
 show Rch p e below s₁ (mkF m 0 #[vR th, vR fd, vR ky] []) _
 obtain ⟨T813, h813, X813, e813, E813, A813, D813, -, st813⟩ := newO X0 hx hZ hown (wi hw 162 rfl) (wi hw 2 rfl) (wi hw 3 rfl) e0 (g := (mkF m 0 #[vR th, vR fd, vR ky] [])) rfl (hb hby d51_0) (by decide) (by decide)
 obtain ⟨a813, g813⟩ : ∃ z, z = h0.size := ⟨_, rfl⟩
 rw [← g813] at A813 D813 st813
 have ge820 : h0.size ≤ a813 := Nat.le_trans Z0f (Nat.le_of_eq g813.symm)
 have hk822 := Nat.le_trans hk0 E813.1
 have f823 := f3.ext E813
 have f824 := f4.ext E813
 have f825 := f5.ext E813
 have f826 := f6.ext E813
 have f827 := f7.ext E813
 have f828 := f8.ext E813
 have f829 := f9.ext E813
 have f830 := f10.ext E813
 have f831 := f11.ext E813
 have f832 := f12.ext E813
 have f833 := f13.ext E813
 have f834 := f14.ext E813
 have Old835 := OldF.ext E813
 have Z836 := Nat.le_trans Z0f E813.1
 have Kp837 : Keep h0 h813 [] := K00.ext E813
 have f838 : Fld Z h813 a813 "com/example/mandoline/mandoline/Variable" "fields" "Ljava/util/Map;" .null := D813 (Or.inr (wi hw 64 rfl)) (ty := (.object "java/util/Map")) (by decide)
 have f839 : Fld Z h813 a813 "com/example/mandoline/mandoline/Variable" "declarationNodes" "Ljava/util/List;" .null := D813 (Or.inl (wi hw 72 rfl)) (ty := (.object "java/util/List")) (by decide)
 have f840 : Fld Z h813 a813 "com/example/mandoline/mandoline/Variable" "name" "Ljava/lang/String;" .null := D813 (Or.inr (wi hw 74 rfl)) (ty := (.object "java/lang/String")) (by decide)
 have f841 : Fld Z h813 a813 "com/example/mandoline/mandoline/Variable" "declaringStatement" "Lcom/example/mandoline/mandoline/ClangNode;" .null := D813 (Or.inr (wi hw 76 rfl)) (ty := (.object "com/example/mandoline/mandoline/ClangNode")) (by decide)
 have f842 : Fld Z h813 a813 "com/example/mandoline/mandoline/Variable" "function" "Ljava/lang/String;" .null := D813 (Or.inr (wi hw 78 rfl)) (ty := (.object "java/lang/String")) (by decide)
 have f843 : Fld Z h813 a813 "com/example/mandoline/mandoline/Variable" "containing" "Lcom/example/mandoline/mandoline/Variable;" .null := D813 (Or.inr (wi hw 80 rfl)) (ty := (.object "com/example/mandoline/mandoline/Variable")) (by decide)
 refine Rch.st (fun _ k => st813 _ k) ?_
 show Rch p e below T813 (mkF m 3 #[vR th, vR fd, vR ky] [(.ref a813)]) _
 refine w_dup (pc' := 4) X813 hx hby d51_3 rfl rfl ?_
 refine w_aloadN (pc' := 5) X813 hx hby d51_4 rfl rfl rfl ?_
 obtain ⟨cq844, kq844, q844a, q844b, q844c⟩ := isOf hZ e813 f825
 obtain ⟨_, _, ⟨T844, L844, k844, n844⟩, -, X844, ⟨Lc844, hQ844, l844, y844, z844⟩, st844⟩ := X813.virtualBack hx (y := y_41) (z := y_41) hown (mvT hZ (wi hw 163 rfl)) (mvT hZ (wi hw 164 rfl)) (notFace_of_selects (args := #[]) (mvT hZ (wi hw 166 rfl))) (mvT hZ (wi hw 166 rfl)) (mvT hZ (wi hw 165 rfl)) (by decide) (backOf (W := 2) (rm_nm l Z a0 hw [] fd fs h813 h0.size Z836 f826) hZ (wi hw 167 rfl) (wi hw 83 rfl) (by decide) (by decide)) q844a q844c (g := (mkF m 5 #[vR th, vR fd, vR ky] [(.ref fd), (.ref a813), (.ref a813)])) rfl (by rw [hml]; rfl) (Steps.refl _) (argsL := []) (rest := [(.ref a813), (.ref a813)]) (lenOf pd___Ljava_lang_String_ rfl) rfl (by show 2 * 0 + _ ≤ _; exact Nat.le_of_eq rfl) (hb hby d51_5) (fun _ _ => ⟨rfl, e813, (by decide : 1 + 0 ≤ _), (by decide : 6 + 0 ≤ _)⟩)
 dsimp only [Pt.U, Pt.locs, Pt.cells, Pt.slots] at X844 l844 y844 z844 st844 hQ844
 subst l844 y844 z844
 obtain ⟨rfl, NQ844, K844⟩ := hQ844
 have N845 := Fr.app N0f NQ844
 refine Rch.st (fun _ k => st844.trans k) ?_
 show Rch p e below T844 (mkF m 8 #[vR th, vR fd, vR ky] [(.ref fs), (.ref a813), (.ref a813)]) _
 obtain ⟨cq846, kq846, q846a, q846b, q846c⟩ := isOf hZ K844 f827
 obtain ⟨_, _, ⟨T846, L846, k846, n846⟩, -, X846, ⟨Lc846, hQ846, l846, y846, z846⟩, st846⟩ := X844.virtualBack hx (y := y_42) (z := y_42) hown (mvT hZ (wi hw 168 rfl)) (mvT hZ (wi hw 169 rfl)) (notFace_of_selects (args := #[]) (mvT hZ (wi hw 171 rfl))) (mvT hZ (wi hw 171 rfl)) (mvT hZ (wi hw 170 rfl)) (by decide) (backOf (W := 2) (rm_ie1 l Z a0 hw [] fs fb kfb fv fdd h813 h0.size Z836 f829 f830) hZ (wi hw 172 rfl) (wi hw 6 rfl) (by decide) (by decide)) q846a q846c (g := (mkF m 8 #[vR th, vR fd, vR ky] [(.ref fs), (.ref a813), (.ref a813)])) rfl (by rw [hml]; rfl) (Steps.refl _) (argsL := []) (rest := [(.ref a813), (.ref a813)]) (lenOf pd___Z rfl) rfl (by show 2 * 0 + _ ≤ _; exact Nat.le_of_eq rfl) (hb hby d51_8) (fun _ _ => ⟨rfl, K844, (by decide : 1 + 0 ≤ _), (by decide : 6 + 0 ≤ _)⟩)
 dsimp only [Pt.U, Pt.locs, Pt.cells, Pt.slots] at X846 l846 y846 z846 st846 hQ846
 subst l846 y846 z846
 obtain ⟨rfl, NQ846, K846⟩ := hQ846
 have N847 := Fr.app N845 NQ846
 refine Rch.st (fun _ k => st846.trans k) ?_
 show Rch p e below T846 (mkF m 11 #[vR th, vR fd, vR ky] [(.int 0), (.ref a813), (.ref a813)]) _
 refine w_ifYes (pc' := 21) X846 hx hby d51_11 (XT.i0_eq_t (by decide)) (by decide) ?_
 obtain ⟨T848, h848, X848, e848, E848, A848, D848, -, st848⟩ := newO X846 hx hZ hown (wi hw 173 rfl) (wi hw 174 rfl) (wi hw 175 rfl) K846 (g := (mkF m 21 #[vR th, vR fd, vR ky] [(.ref a813), (.ref a813)])) rfl (hb hby d51_21) (by decide) (by decide)
 obtain ⟨a848, g848⟩ : ∃ z, z = h813.size := ⟨_, rfl⟩
 rw [← g848] at A848 D848 st848
 have ne849 : a813 ≠ a848 := by rw [g848]; exact Nat.ne_of_lt A813.lt
 have ne850 : fb ≠ a848 := by rw [g848]; exact Nat.ne_of_lt f830.lt
 have ne851 : fd ≠ a848 := by rw [g848]; exact Nat.ne_of_lt f825.lt
 have ne852 : fs ≠ a848 := by rw [g848]; exact Nat.ne_of_lt f827.lt
 have ne853 : nb ≠ a848 := by rw [g848]; exact Nat.ne_of_lt f834.lt
 have ne854 : nm ≠ a848 := by rw [g848]; exact Nat.ne_of_lt f831.lt
 have ne855 : th ≠ a848 := by rw [g848]; exact Nat.ne_of_lt f823.lt
 have ge856 : h0.size ≤ a848 := Nat.le_trans Z836 (Nat.le_of_eq g848.symm)
 have hk858 := Nat.le_trans hk822 E848.1
 have f860 := f824.ext E848
 have f861 := f825.ext E848
 have f862 := f826.ext E848
 have f863 := f827.ext E848
 have f864 := f828.ext E848
 have f865 := f829.ext E848
 have f866 := f830.ext E848
 have f867 := f831.ext E848
 have f868 := f832.ext E848
 have f869 := f833.ext E848
 have f870 := f834.ext E848
 have f871 := A813.ext E848
 have f872 := f838.ext E848
 have f873 := f839.ext E848
 have f874 := f840.ext E848
 have f875 := f841.ext E848
 have f876 := f842.ext E848
 have f877 := f843.ext E848
 have Old878 := Old835.ext E848
 have Z879 := Nat.le_trans Z836 E848.1
 have Kp880 : Keep h0 h848 [] := Kp837.ext E848
 have f881 : Fld Z h848 a848 "java/lang/AbstractStringBuilder" "value" "[B" .null := D848 (Or.inl (wi hw 188 rfl)) (ty := (.array .byte)) (by decide)
 have f882 : Fld Z h848 a848 "java/lang/AbstractStringBuilder" "coder" "B" (.int (0 : Int32)) := D848 (Or.inl (wi hw 190 rfl)) (ty := .byte) (by decide)
 have f883 : Fld Z h848 a848 "java/lang/AbstractStringBuilder" "count" "I" (.int (0 : Int32)) := D848 (Or.inl (wi hw 212 rfl)) (ty := .int) (by decide)
 refine Rch.st (fun _ k => st848 _ k) ?_
 show Rch p e below T848 (mkF m 24 #[vR th, vR fd, vR ky] [(.ref a848), (.ref a813), (.ref a813)]) _
 refine w_dup (pc' := 25) X848 hx hby d51_24 rfl rfl ?_
 obtain ⟨_, _, ⟨T884, L884, k884, n884⟩, -, X884, ⟨Lc884, hQ884, l884, y884, z884⟩, st884⟩ := X848.specialBack hx (y := y_11) rfl hown (mvT hZ (wi hw 176 rfl)) (mvT hZ (wi hw 177 rfl)) (mvT hZ (wi hw 178 rfl)) (by decide) (backOf (W := 3) (rm_Bi l Z a0 hw [] G1 a848 h848 h0.size Z879 (O2) (P5) A848 f881 f882 f883 (ge856) Old878) hZ (wi hw 178 rfl) (wi hw 175 rfl) (by decide) (by decide)) (g := (mkF m 25 #[vR th, vR fd, vR ky] [(.ref a848), (.ref a848), (.ref a813), (.ref a813)])) rfl (by rw [hml]; rfl) (Steps.refl _) (a := a848) (argsL := []) (rest := [(.ref a848), (.ref a813), (.ref a813)]) (lenOf pd___V rfl) rfl (by show 2 * 0 + _ ≤ _; exact Nat.le_of_eq rfl) (hb hby d51_25) (fun _ _ => ⟨rfl, e848, (by decide : 2 + 1 ≤ _), (by decide : 10 + 16 ≤ _)⟩)
 dsimp only [Pt.U, Pt.locs, Pt.cells, Pt.slots] at X884 l884 y884 z884 st884 hQ884
 subst l884 y884 z884
 obtain ⟨t_884, kt_884, rfl, NQ884, K884, pq884_0, fq884_0, fq884_1, fq884_2, fq884_3⟩ := hQ884
 have N885 := Fr.app N847 NQ884
 have ne886 := nlt f871.lt pq884_0
 have ne887 := nlt A848.lt pq884_0
 have ne888 := nlt f866.lt pq884_0
 have ne889 := nlt f861.lt pq884_0
 have ne890 := nlt f863.lt pq884_0
 have ne891 := nlt f870.lt pq884_0
 have ne892 := nlt f867.lt pq884_0
 have ge894 : h0.size ≤ t_884 := Nat.le_trans Z879 pq884_0
 have f896 := f860.keep K884 (ninS ne855 nin0)
 have f897 := f861.keep K884
 have f898 := f862.keep K884 (ninS ne851 nin0)
 have f899 := f863.keep K884
 have f900 := f864.keep K884 (ninS ne852 nin0)
 have f901 := f865.keep K884 (ninS ne852 nin0)
 have f902 := f866.keep K884 (ninS ne850 nin0)
 have f903 := f867.keep K884
 have f904 := f868.keep K884 (ninS ne854 nin0)
 have f905 := f869.keep K884 (ninS ne854 nin0)
 have f906 := f870.keep K884 (ninS ne853 nin0)
 have f907 := f871.keep K884
 have f908 := f872.keep K884 (ninS ne849 nin0)
 have f909 := f873.keep K884 (ninS ne849 nin0)
 have f910 := f874.keep K884 (ninS ne849 nin0)
 have f911 := f875.keep K884 (ninS ne849 nin0)
 have f912 := f876.keep K884 (ninS ne849 nin0)
 have f913 := f877.keep K884 (ninS ne849 nin0)
 have f914 := A848.keep K884
 have Old915 := Old878.keep K884 (allS ge856 all0)
 have Kp916 : Keep h0 T884.heap [] := Kp880.trans K884 (allS (Or.inr (Nat.le_trans Kp837.1 (Nat.le_of_eq g848.symm))) all0)
 have Z917 := Nat.le_trans Z879 K884.1
 have hk918 := Nat.le_trans hk858 K884.1
 refine Rch.st (fun _ k => st884.trans k) ?_
 show Rch p e below T884 (mkF m 28 #[vR th, vR fd, vR ky] [(.ref a848), (.ref a813), (.ref a813)]) _
 refine w_aloadN (pc' := 29) X884 hx hby d51_28 rfl rfl rfl ?_
 obtain ⟨T919, X919, e919, st919⟩ := getF X884 hx hZ hown (host := "") (Or.inl (wi hw 73 rfl)) Via.refl (rfl : T884.heap = T884.heap) f896 (g := (mkF m 29 #[vR th, vR fd, vR ky] [(.ref th), (.ref a848), (.ref a813), (.ref a813)])) rfl rfl (hb hby d51_29)
 refine Rch.st (fun _ k => st919 _ k) ?_
 show Rch p e below T919 (mkF m 32 #[vR th, vR fd, vR ky] [(.ref nm), (.ref a848), (.ref a813), (.ref a813)]) _
 obtain ⟨cq920, kq920, q920a, q920b, q920c⟩ := isOf hZ e919 f914
 obtain ⟨_, _, ⟨T920, L920, k920, n920⟩, -, X920, ⟨Lc920, hQ920, l920, y920, z920⟩, st920⟩ := X919.virtualBack hx (y := y_17) (z := y_17) hown (mvT hZ (wi hw 191 rfl)) (mvT hZ (wi hw 192 rfl)) (notFace_of_selects (args := #[]) (mvT hZ (wi hw 194 rfl))) (mvT hZ (wi hw 194 rfl)) (mvT hZ (wi hw 193 rfl)) (by decide) (backOf (W := 2) (rm_Bap l Z a0 hw [] G1 a848 t_884 kt_884 0 ([] : List Value) nm nb knb 1 nv_ ndd T884.heap h0.size Z917 (O2) (P5) f914 fq884_0 fq884_1 fq884_2 fq884_3 f903 f904 f905 f906 (by decide) (by decide) (by first | decide | (simp only [own_take_len, List.length_append, List.length_nil]; decide)) (by first | decide | (simp only [own_take_len, List.length_append, List.length_nil]; decide)) (by decide) (ge856) (ge894) (ne891) (ne854) (ne853) ((Ne.symm ne887)) (ne892) Old915) hZ (wi hw 195 rfl) (wi hw 175 rfl) (by decide) (by decide)) q920a q920c (g := (mkF m 32 #[vR th, vR fd, vR ky] [(.ref nm), (.ref a848), (.ref a813), (.ref a813)])) rfl (by rw [hml]; rfl) (Steps.refl _) (argsL := [(.ref nm)]) (rest := [(.ref a813), (.ref a813)]) (lenOf pd__Ljava_lang_String__Ljava_lang_StringBuilder_ rfl) rfl (by show 2 * 0 + _ ≤ _; exact Nat.le_of_eq rfl) (hb hby d51_32) (fun _ _ => ⟨rfl, e919, (by decide : 3 + 0 ≤ _), (by decide : 26 + 0 ≤ _)⟩)
 dsimp only [Pt.U, Pt.locs, Pt.cells, Pt.slots] at X920 l920 y920 z920 st920 hQ920
 subst l920 y920 z920
 obtain ⟨rfl, NQ920, K920, fq920_0, fq920_1, fq920_2, fq920_3⟩ := hQ920
 have N921 := Fr.app N885 NQ920
 have f924 := f897.keep K920
 have f925 := f898.keep K920 (ninS ne851 (ninS ne889 nin0))
 have f926 := f899.keep K920
 have f927 := f900.keep K920 (ninS ne852 (ninS ne890 nin0))
 have f928 := f901.keep K920 (ninS ne852 (ninS ne890 nin0))
 have f929 := f902.keep K920 (ninS ne850 (ninS ne888 nin0))
 have f934 := f907.keep K920
 have f935 := f908.keep K920 (ninS ne849 (ninS ne886 nin0))
 have f936 := f909.keep K920 (ninS ne849 (ninS ne886 nin0))
 have f937 := f910.keep K920 (ninS ne849 (ninS ne886 nin0))
 have f938 := f911.keep K920 (ninS ne849 (ninS ne886 nin0))
 have f939 := f912.keep K920 (ninS ne849 (ninS ne886 nin0))
 have f940 := f913.keep K920 (ninS ne849 (ninS ne886 nin0))
 have f941 := f914.keep K920
 have Old942 := Old915.keep K920 (allS ge856 (allS ge894 all0))
 have Kp943 : Keep h0 T920.heap [] := Kp916.trans K920 (allS (Or.inr (Nat.le_trans Kp837.1 (Nat.le_of_eq g848.symm))) (allS (Or.inr (Nat.le_trans Kp880.1 pq884_0)) all0))
 have Z944 := Nat.le_trans Z917 K920.1
 have hk945 := Nat.le_trans hk918 K920.1
 refine Rch.st (fun _ k => st920.trans k) ?_
 show Rch p e below T920 (mkF m 35 #[vR th, vR fd, vR ky] [(.ref a848), (.ref a813), (.ref a813)]) _
 obtain ⟨a946, T946, h946, k946, b946, kc946, X946, e946, E946, hS946, hk946, hZ946, hown946, Ex946, Fc946, Fv946, Va946, lt946, lu946, I946, Li946, st946⟩ := ldcSVL (s := s) (vm0 := s.vm) X920 hx hZ hown (wi hw 238 rfl) (fun d hd => hw d ((by decide +kernel : ∀ d ∈ Bundle.stringAtoms, d ∈ tables_1) d hd)) (rfl : T920.heap = T920.heap) hS0 hk945 (by rw [hh]; exact N921) hkeep hI (by decide) H131 hcw (vs := [(.int (46 : Int32))]) (z := (1 : Int32)) ⟨by decide, by decide⟩ (by decide) (by decide) (g := (mkF m 35 #[vR th, vR fd, vR ky] [(.ref a848), (.ref a813), (.ref a813)])) rfl (hb hby d51_35) (n := 4) (by decide) (by decide) (by decide) (by decide)
 have f950 := f924.ext E946
 have f951 := f925.ext E946
 have f952 := f926.ext E946
 have f953 := f927.ext E946
 have f954 := f928.ext E946
 have f955 := f929.ext E946
 have f960 := f934.ext E946
 have f961 := f935.ext E946
 have f962 := f936.ext E946
 have f963 := f937.ext E946
 have f964 := f938.ext E946
 have f965 := f939.ext E946
 have f966 := f940.ext E946
 have f967 := f941.ext E946
 have f968 := fq920_0.ext E946
 have f969 := fq920_1.ext E946
 have f970 := fq920_2.ext E946
 have f971 := fq920_3.ext E946
 have Old972 := Old942.ext E946
 have Z973 := Nat.le_trans Z944 E946.1
 have Kp974 : Keep h0 h946 [] := Kp943.ext E946
 refine Rch.st (fun _ k => st946 _ k) ?_
 show Rch p e below T946 (mkF m 37 #[vR th, vR fd, vR ky] [(.ref a946), (.ref a848), (.ref a813), (.ref a813)]) _
 have ne975 : a946 ≠ a848 := ne_exa Ex946 f967 (by decide)
 have ne976 : b946 ≠ a848 := Ne.symm (Exa.neArv f967 Va946 (wi hw 174 rfl))
 have ne977 : a946 ≠ t_884 := Exa.neArv Ex946 f971 (wi hw 14 rfl)
 have ne978 : b946 ≠ t_884 := own_neLen Va946 f971 (by decide)
 obtain ⟨cq979, kq979, q979a, q979b, q979c⟩ := isOf hZ946 e946 f967
 obtain ⟨_, _, ⟨T979, L979, k979, n979⟩, -, X979, ⟨Lc979, hQ979, l979, y979, z979⟩, st979⟩ := X946.virtualBack hx (y := y_17) (z := y_17) hown946 (mvT hZ946 (wi hw 191 rfl)) (mvT hZ946 (wi hw 192 rfl)) (notFace_of_selects (args := #[]) (mvT hZ946 (wi hw 194 rfl))) (mvT hZ946 (wi hw 194 rfl)) (mvT hZ946 (wi hw 193 rfl)) (by decide) (backOf (W := 2) (rm_Bap l Z a0 hw [] G1 a848 t_884 kt_884 ((0 : Int32) + (1 : Int32)) (([] : List Value) ++ own_take nv_ ndd (1 : Int32).toNatClampNeg) a946 b946 kc946 1 ([(.int 46)]) (.int 0) h946 h0.size Z973 (O2) (P5) f967 f968 f969 f970 f971 Ex946 Fc946 Fv946 Va946 (by decide) (by decide) (by first | decide | (simp only [own_take_len, List.length_append, List.length_nil]; decide)) (by first | decide | (simp only [own_take_len, List.length_append, List.length_nil]; decide)) (by decide) (ge856) (ge894) (ne978) (ne975) (ne976) ((Ne.symm ne887)) (ne977) Old972) hZ946 (wi hw 195 rfl) (wi hw 175 rfl) (by decide) (by decide)) q979a q979c (g := (mkF m 37 #[vR th, vR fd, vR ky] [(.ref a946), (.ref a848), (.ref a813), (.ref a813)])) rfl (by rw [hml]; rfl) (Steps.refl _) (argsL := [(.ref a946)]) (rest := [(.ref a813), (.ref a813)]) (lenOf pd__Ljava_lang_String__Ljava_lang_StringBuilder_ rfl) rfl (by show 2 * 0 + _ ≤ _; exact Nat.le_of_eq rfl) (hb hby d51_37) (fun _ _ => ⟨rfl, e946, (by decide : 5 + 0 ≤ _), (by decide : 34 + 0 ≤ _)⟩)
 dsimp only [Pt.U, Pt.locs, Pt.cells, Pt.slots] at X979 l979 y979 z979 st979 hQ979
 subst l979 y979 z979
 obtain ⟨rfl, NQ979, K979, fq979_0, fq979_1, fq979_2, fq979_3⟩ := hQ979
 have N980 := Fr.app N921 NQ979
 have f983 := f950.keep K979
 have f984 := f951.keep K979 (ninS ne851 (ninS ne889 nin0))
 have f985 := f952.keep K979
 have f986 := f953.keep K979 (ninS ne852 (ninS ne890 nin0))
 have f987 := f954.keep K979 (ninS ne852 (ninS ne890 nin0))
 have f988 := f955.keep K979 (ninS ne850 (ninS ne888 nin0))
 have f993 := f960.keep K979
 have f994 := f961.keep K979 (ninS ne849 (ninS ne886 nin0))
 have f995 := f962.keep K979 (ninS ne849 (ninS ne886 nin0))
 have f996 := f963.keep K979 (ninS ne849 (ninS ne886 nin0))
 have f997 := f964.keep K979 (ninS ne849 (ninS ne886 nin0))
 have f998 := f965.keep K979 (ninS ne849 (ninS ne886 nin0))
 have f999 := f966.keep K979 (ninS ne849 (ninS ne886 nin0))
 have f1000 := f967.keep K979
 have f1001 := Ex946.keep K979
 have f1002 := Fc946.keep K979 (ninS ne975 (ninS ne977 nin0))
 have f1003 := Fv946.keep K979 (ninS ne975 (ninS ne977 nin0))
 have f1004 := Va946.keep K979 (ninS ne976 (ninS ne978 nin0))
 have Old1005 := Old972.keep K979 (allS ge856 (allS ge894 all0))
 have Kp1006 : Keep h0 T979.heap [] := Kp974.trans K979 (allS (Or.inr (Nat.le_trans Kp837.1 (Nat.le_of_eq g848.symm))) (allS (Or.inr (Nat.le_trans Kp880.1 pq884_0)) all0))
 have Z1007 := Nat.le_trans Z973 K979.1
 have hk1008 := Nat.le_trans hk946 K979.1
 refine Rch.st (fun _ k => st979.trans k) ?_
 show Rch p e below T979 (mkF m 40 #[vR th, vR fd, vR ky] [(.ref a848), (.ref a813), (.ref a813)]) _
 refine w_aloadN (pc' := 41) X979 hx hby d51_40 rfl rfl rfl ?_
 obtain ⟨cq1009, kq1009, q1009a, q1009b, q1009c⟩ := isOf hZ946 (rfl : T979.heap = T979.heap) f983
 obtain ⟨_, _, ⟨T1009, L1009, k1009, n1009⟩, -, X1009, ⟨Lc1009, hQ1009, l1009, y1009, z1009⟩, st1009⟩ := X979.virtualBack hx (y := y_41) (z := y_41) hown946 (mvT hZ946 (wi hw 163 rfl)) (mvT hZ946 (wi hw 164 rfl)) (notFace_of_selects (args := #[]) (mvT hZ946 (wi hw 166 rfl))) (mvT hZ946 (wi hw 166 rfl)) (mvT hZ946 (wi hw 165 rfl)) (by decide) (backOf (W := 3) (rm_nm l Z a0 hw [] fd fs T979.heap h0.size Z1007 f984) hZ946 (wi hw 167 rfl) (wi hw 83 rfl) (by decide) (by decide)) q1009a q1009c (g := (mkF m 41 #[vR th, vR fd, vR ky] [(.ref fd), (.ref a848), (.ref a813), (.ref a813)])) rfl (by rw [hml]; rfl) (Steps.refl _) (argsL := []) (rest := [(.ref a848), (.ref a813), (.ref a813)]) (lenOf pd___Ljava_lang_String_ rfl) rfl (by show 2 * 0 + _ ≤ _; exact Nat.le_of_eq rfl) (hb hby d51_41) (fun _ _ => ⟨rfl, (rfl : T979.heap = T979.heap), (by decide : 5 + 0 ≤ _), (by decide : 34 + 0 ≤ _)⟩)
 dsimp only [Pt.U, Pt.locs, Pt.cells, Pt.slots] at X1009 l1009 y1009 z1009 st1009 hQ1009
 subst l1009 y1009 z1009
 obtain ⟨rfl, NQ1009, K1009⟩ := hQ1009
 have N1010 := Fr.app N980 NQ1009
 refine Rch.st (fun _ k => st1009.trans k) ?_
 show Rch p e below T1009 (mkF m 44 #[vR th, vR fd, vR ky] [(.ref fs), (.ref a848), (.ref a813), (.ref a813)]) _
 obtain ⟨cq1011, kq1011, q1011a, q1011b, q1011c⟩ := isOf hZ946 K1009 f1000
 obtain ⟨_, _, ⟨T1011, L1011, k1011, n1011⟩, -, X1011, ⟨Lc1011, hQ1011, l1011, y1011, z1011⟩, st1011⟩ := X1009.virtualBack hx (y := y_17) (z := y_17) hown946 (mvT hZ946 (wi hw 191 rfl)) (mvT hZ946 (wi hw 192 rfl)) (notFace_of_selects (args := #[]) (mvT hZ946 (wi hw 194 rfl))) (mvT hZ946 (wi hw 194 rfl)) (mvT hZ946 (wi hw 193 rfl)) (by decide) (backOf (W := 2) (rm_Bap l Z a0 hw [] G1 a848 t_884 kt_884 (((0 : Int32) + (1 : Int32)) + (1 : Int32)) ((([] : List Value) ++ own_take nv_ ndd (1 : Int32).toNatClampNeg) ++ own_take ([(.int 46)]) (.int 0) (1 : Int32).toNatClampNeg) fs fb kfb 1 fv fdd T979.heap h0.size Z1007 (O2) (P5) f1000 fq979_0 fq979_1 fq979_2 fq979_3 f985 f986 f987 f988 (by decide) (by decide) (by first | decide | (simp only [own_take_len, List.length_append, List.length_nil]; decide)) (by first | decide | (simp only [own_take_len, List.length_append, List.length_nil]; decide)) (by decide) (ge856) (ge894) (ne888) (ne852) (ne850) ((Ne.symm ne887)) (ne890) Old1005) hZ946 (wi hw 195 rfl) (wi hw 175 rfl) (by decide) (by decide)) q1011a q1011c (g := (mkF m 44 #[vR th, vR fd, vR ky] [(.ref fs), (.ref a848), (.ref a813), (.ref a813)])) rfl (by rw [hml]; rfl) (Steps.refl _) (argsL := [(.ref fs)]) (rest := [(.ref a813), (.ref a813)]) (lenOf pd__Ljava_lang_String__Ljava_lang_StringBuilder_ rfl) rfl (by show 2 * 0 + _ ≤ _; exact Nat.le_of_eq rfl) (hb hby d51_44) (fun _ _ => ⟨rfl, K1009, (by decide : 5 + 0 ≤ _), (by decide : 34 + 0 ≤ _)⟩)
 dsimp only [Pt.U, Pt.locs, Pt.cells, Pt.slots] at X1011 l1011 y1011 z1011 st1011 hQ1011
 subst l1011 y1011 z1011
 obtain ⟨rfl, NQ1011, K1011, fq1011_0, fq1011_1, fq1011_2, fq1011_3⟩ := hQ1011
 have N1012 := Fr.app N1010 NQ1011
 have f1025 := f993.keep K1011
 have f1026 := f994.keep K1011 (ninS ne849 (ninS ne886 nin0))
 have f1027 := f995.keep K1011 (ninS ne849 (ninS ne886 nin0))
 have f1028 := f996.keep K1011 (ninS ne849 (ninS ne886 nin0))
 have f1029 := f997.keep K1011 (ninS ne849 (ninS ne886 nin0))
 have f1030 := f998.keep K1011 (ninS ne849 (ninS ne886 nin0))
 have f1031 := f999.keep K1011 (ninS ne849 (ninS ne886 nin0))
 have f1032 := f1000.keep K1011
 have f1033 := f1001.keep K1011
 have f1034 := f1002.keep K1011 (ninS ne975 (ninS ne977 nin0))
 have f1035 := f1003.keep K1011 (ninS ne975 (ninS ne977 nin0))
 have f1036 := f1004.keep K1011 (ninS ne976 (ninS ne978 nin0))
 have Old1037 := Old1005.keep K1011 (allS ge856 (allS ge894 all0))
 have Kp1038 : Keep h0 T1011.heap [] := Kp1006.trans K1011 (allS (Or.inr (Nat.le_trans Kp837.1 (Nat.le_of_eq g848.symm))) (allS (Or.inr (Nat.le_trans Kp880.1 pq884_0)) all0))
 have Z1039 := Nat.le_trans Z1007 K1011.1
 have hk1040 := Nat.le_trans hk1008 K1011.1
 refine Rch.st (fun _ k => st1011.trans k) ?_
 show Rch p e below T1011 (mkF m 47 #[vR th, vR fd, vR ky] [(.ref a848), (.ref a813), (.ref a813)]) _
 obtain ⟨cq1041, kq1041, q1041a, q1041b, q1041c⟩ := isOf hZ946 (rfl : T1011.heap = T1011.heap) f1032
 obtain ⟨_, _, ⟨T1041, L1041, k1041, n1041⟩, -, X1041, ⟨Lc1041, hQ1041, l1041, y1041, z1041⟩, st1041⟩ := X1011.virtualBack hx (y := y_24) (z := y_24) hown946 (mvT hZ946 (wi hw 241 rfl)) (mvT hZ946 (wi hw 242 rfl)) (notFace_of_selects (args := #[]) (mvT hZ946 (wi hw 244 rfl))) (mvT hZ946 (wi hw 244 rfl)) (mvT hZ946 (wi hw 243 rfl)) (by decide) (backOf (W := 2) (rm_ts l Z a0 hw [] G1 a848 t_884 kt_884 ((((0 : Int32) + (1 : Int32)) + (1 : Int32)) + (1 : Int32)) (((([] : List Value) ++ own_take nv_ ndd (1 : Int32).toNatClampNeg) ++ own_take ([(.int 46)]) (.int 0) (1 : Int32).toNatClampNeg) ++ own_take fv fdd (1 : Int32).toNatClampNeg) T1011.heap h0.size Z1039 (O2) (P5) f1032 fq1011_0 fq1011_1 fq1011_2 fq1011_3 (by decide) (by decide) (by decide) (by decide) (by decide) Old1037) hZ946 (wi hw 245 rfl) (wi hw 175 rfl) (by decide) (by decide)) q1041a q1041c (g := (mkF m 47 #[vR th, vR fd, vR ky] [(.ref a848), (.ref a813), (.ref a813)])) rfl (by rw [hml]; rfl) (Steps.refl _) (argsL := []) (rest := [(.ref a813), (.ref a813)]) (lenOf pd___Ljava_lang_String_ rfl) rfl (by show 2 * 0 + _ ≤ _; exact Nat.le_of_eq rfl) (hb hby d51_47) (fun _ _ => ⟨rfl, (rfl : T1011.heap = T1011.heap), (by decide : 5 + 2 ≤ _), (by decide : 34 + 20 ≤ _)⟩)
 dsimp only [Pt.U, Pt.locs, Pt.cells, Pt.slots] at X1041 l1041 y1041 z1041 st1041 hQ1041
 subst l1041 y1041 z1041
 obtain ⟨ra_1041, t_1041, kt_1041, rfl, NQ1041, K1041, pq1041_0, pq1041_1, fq1041_0, fq1041_1, fq1041_2, fq1041_3⟩ := hQ1041
 have N1042 := Fr.app N1012 NQ1041
 have ne1043 := nlt f1025.lt pq1041_0
 have ne1055 := nlt f1025.lt pq1041_1
 have f1079 := f1025.keep K1041
 have f1080 := f1026.keep K1041 nin0
 have f1081 := f1027.keep K1041 nin0
 have f1082 := f1028.keep K1041 nin0
 have f1083 := f1029.keep K1041 nin0
 have f1084 := f1030.keep K1041 nin0
 have f1085 := f1031.keep K1041 nin0
 have f1087 := f1033.keep K1041
 have f1088 := f1034.keep K1041 nin0
 have f1089 := f1035.keep K1041 nin0
 have f1090 := f1036.keep K1041 nin0
 have Old1095 := Old1037.keep K1041 all0
 have Kp1096 : Keep h0 T1041.heap [] := Kp1038.trans K1041 all0
 have Z1097 := Nat.le_trans Z1039 K1041.1
 have hk1098 := Nat.le_trans hk1040 K1041.1
 refine Rch.st (fun _ k => st1041.trans k) ?_
 show Rch p e below T1041 (mkF m 50 #[vR th, vR fd, vR ky] [(.ref ra_1041), (.ref a813), (.ref a813)]) _
 refine w_aconstNull (pc' := 51) X1041 hx hby d51_50 rfl ?_
 refine w_aconstNull (pc' := 52) X1041 hx hby d51_51 rfl ?_
 refine w_aloadN (pc' := 53) X1041 hx hby d51_52 rfl rfl rfl ?_
 obtain ⟨tv1099, f1100⟩ : ∃ tv, Arv Z T1041.heap t_1041 kt_1041 .byte (3 : Int32) tv (.int (0 : Int32)) := by have z := fq1041_3; rw [show ((((0 : Int32) + (1 : Int32)) + (1 : Int32)) + (1 : Int32)) = (3 : Int32) from by decide] at z; exact ⟨_, z⟩
 have ne1101 : a946 ≠ a813 := ne_exa f1087 f1079 (by decide)
 have ne1102 : b946 ≠ a813 := Ne.symm (Exa.neArv f1079 f1090 (wi hw 2 rfl))
 obtain ⟨_, _, ⟨T1103, L1103, k1103, n1103⟩, -, X1103, ⟨Lc1103, hQ1103, l1103, y1103, z1103⟩, st1103⟩ := X1041.specialBack hx (y := y_37) rfl hown946 (mvT hZ946 (wi hw 33 rfl)) (mvT hZ946 (wi hw 34 rfl)) (mvT hZ946 (wi hw 35 rfl)) (by decide) (backOf (W := 1) (rm_v4 l Z a0 hw [] G6 a813 ra_1041 .null .null (.ref th) T1041.heap h0.size Z1097 (O6) f1079 f1080 f1081 f1082 f1083 f1084 f1085 (ge820) (rfl) (rfl) (rfl) Old1095) hZ946 (wi hw 35 rfl) (wi hw 3 rfl) (by decide) (by decide)) (g := (mkF m 53 #[vR th, vR fd, vR ky] [(.ref th), .null, .null, (.ref ra_1041), (.ref a813), (.ref a813)])) rfl (by rw [hml]; rfl) (Steps.refl _) (a := a813) (argsL := [(.ref ra_1041), .null, .null, (.ref th)]) (rest := [(.ref a813)]) (lenOf pd__Ljava_lang_String_Lcom_example_mandoline_mandoline_ClangNode_Ljava_lang_String_Lcom_example_mandoline_mandoline_Variable__V rfl) rfl (by show 2 * 0 + _ ≤ _; exact Nat.le_of_eq rfl) (hb hby d51_53) (fun _ _ => ⟨rfl, (rfl : T1041.heap = T1041.heap), (by decide : 7 + 1 ≤ _), (by decide : 54 + 12 ≤ _)⟩)
 dsimp only [Pt.U, Pt.locs, Pt.cells, Pt.slots] at X1103 l1103 y1103 z1103 st1103 hQ1103
 subst l1103 y1103 z1103
 obtain ⟨m2_1103, rfl, NQ1103, K1103, pq1103_0, fq1103_0, fq1103_1, fq1103_2, fq1103_3, fq1103_4, fq1103_5, fq1103_6, fq1103_7, fq1103_8, fq1103_9, fq1103_10, fq1103_11, fq1103_12⟩ := hQ1103
 have N1104 := Fr.app N1042 NQ1103
 have f1131 := f1079.keep K1103
 have f1133 := f1087.keep K1103
 have f1134 := f1088.keep K1103 (ninS ne1101 nin0)
 have f1135 := f1089.keep K1103 (ninS ne1101 nin0)
 have f1136 := f1090.keep K1103 (ninS ne1102 nin0)
 have f1141 := fq1041_0.keep K1103
 have f1142 := fq1041_1.keep K1103 (ninS (Ne.symm ne1043) nin0)
 have f1143 := fq1041_2.keep K1103 (ninS (Ne.symm ne1043) nin0)
 have f1144 := f1100.keep K1103 (ninS (Ne.symm ne1055) nin0)
 have Kp1146 : Keep h0 T1103.heap [] := Kp1096.trans K1103 (allS (Or.inr (Nat.le_trans K00.1 (Nat.le_of_eq g813.symm))) all0)
 have hk1148 := Nat.le_trans hk1098 K1103.1
 refine Rch.st (fun _ k => st1103.trans k) ?_
 show Rch p e below T1103 (mkF m 56 #[vR th, vR fd, vR ky] [(.ref a813)]) _
 exact Rch.retVW X1103 hx hS946 (by rw [(rfl : T1103.heap = T1103.heap)]; exact hk1148) Bd.returns rfl (Or.inr (Or.inr (Or.inr (Or.inr ⟨rfl, rfl, rfl⟩)))) (hb hby d51_56) (by rw [(rfl : T1103.heap = T1103.heap)]; exact ⟨a813, m2_1103, ra_1041, t_1041, kt_1041, tv1099, a946, b946, kc946, rfl, (own_Fr Z0 N1104), Kp1146, (Nat.le_trans K00.1 (Nat.le_of_eq g813.symm)), (Nat.le_trans Kp1096.1 pq1103_0), (Nat.le_trans Kp1038.1 pq1041_0), (Nat.le_trans Kp1038.1 pq1041_1), f1131, fq1103_0, fq1103_1, fq1103_3, fq1103_5, fq1103_6, fq1103_7, fq1103_8, fq1103_9, fq1103_10, fq1103_11, fq1103_12, f1141, f1142, f1143, f1144, f1133, f1134, f1135, f1136, own_ib_mono (own_ib (s := s.setVm T946.vm) I946 X1103.warmed) (by decide), own_lit (s := s) (vm := T946.vm) Li946 X1103.warmed.wide⟩) (by decide) (by decide)

abbrev c52 : ByteArray := jdk_69_method_35_code
theorem d52_0 : decode c52 0 = .ok (.aload_n 2, 1) := by decide +kernel
theorem d52_1 : decode c52 1 = .ok (.ifnonnull 11, 3) := by decide +kernel
theorem d52_12 : decode c52 12 = .ok (.aload_n 1, 1) := by decide +kernel
theorem d52_13 : decode c52 13 = .ok (.invokestatic 149, 3) := by decide +kernel
theorem d52_16 : decode c52 16 = .ok (.istore_n 3, 1) := by decide +kernel
theorem d52_17 : decode c52 17 = .ok (.iconst 0, 1) := by decide +kernel
theorem d52_18 : decode c52 18 = .ok (.istore 8, 2) := by decide +kernel
theorem d52_20 : decode c52 20 = .ok (.aconst_null, 1) := by decide +kernel
theorem d52_21 : decode c52 21 = .ok (.astore 9, 2) := by decide +kernel
theorem d52_23 : decode c52 23 = .ok (.aconst_null, 1) := by decide +kernel
theorem d52_24 : decode c52 24 = .ok (.astore 10, 2) := by decide +kernel
theorem d52_26 : decode c52 26 = .ok (.aload_n 0, 1) := by decide +kernel
theorem d52_27 : decode c52 27 = .ok (.getfield 156, 3) := by decide +kernel
theorem d52_30 : decode c52 30 = .ok (.aload_n 0, 1) := by decide +kernel
theorem d52_31 : decode c52 31 = .ok (.getfield 88, 3) := by decide +kernel
theorem d52_34 : decode c52 34 = .ok (.if_icmp .gt 22, 3) := by decide +kernel
theorem d52_37 : decode c52 37 = .ok (.aload_n 0, 1) := by decide +kernel
theorem d52_38 : decode c52 38 = .ok (.getfield 105, 3) := by decide +kernel
theorem d52_41 : decode c52 41 = .ok (.dup, 1) := by decide +kernel
theorem d52_42 : decode c52 42 = .ok (.astore 4, 2) := by decide +kernel
theorem d52_44 : decode c52 44 = .ok (.ifnull 12, 3) := by decide +kernel
theorem d52_56 : decode c52 56 = .ok (.aload_n 0, 1) := by decide +kernel
theorem d52_57 : decode c52 57 = .ok (.invokevirtual 117, 3) := by decide +kernel
theorem d52_60 : decode c52 60 = .ok (.dup, 1) := by decide +kernel
theorem d52_61 : decode c52 61 = .ok (.astore 4, 2) := by decide +kernel
theorem d52_63 : decode c52 63 = .ok (.arraylength, 1) := by decide +kernel
theorem d52_64 : decode c52 64 = .ok (.istore 6, 2) := by decide +kernel
theorem d52_66 : decode c52 66 = .ok (.aload 4, 2) := by decide +kernel
theorem d52_68 : decode c52 68 = .ok (.iload 6, 2) := by decide +kernel
theorem d52_70 : decode c52 70 = .ok (.iconst 1, 1) := by decide +kernel
theorem d52_71 : decode c52 71 = .ok (.isub, 1) := by decide +kernel
theorem d52_72 : decode c52 72 = .ok (.iload_n 3, 1) := by decide +kernel
theorem d52_73 : decode c52 73 = .ok (.iand, 1) := by decide +kernel
theorem d52_74 : decode c52 74 = .ok (.dup, 1) := by decide +kernel
theorem d52_75 : decode c52 75 = .ok (.istore 7, 2) := by decide +kernel
theorem d52_77 : decode c52 77 = .ok (.aaload, 1) := by decide +kernel
theorem d52_78 : decode c52 78 = .ok (.dup, 1) := by decide +kernel
theorem d52_79 : decode c52 79 = .ok (.astore 5, 2) := by decide +kernel
theorem d52_81 : decode c52 81 = .ok (.ifnull 113, 3) := by decide +kernel
theorem d52_194 : decode c52 194 = .ok (.aload_n 0, 1) := by decide +kernel
theorem d52_195 : decode c52 195 = .ok (.getfield 202, 3) := by decide +kernel
theorem d52_198 : decode c52 198 = .ok (.istore 11, 2) := by decide +kernel
theorem d52_200 : decode c52 200 = .ok (.aload_n 2, 1) := by decide +kernel
theorem d52_201 : decode c52 201 = .ok (.aload_n 1, 1) := by decide +kernel
theorem d52_202 : decode c52 202 = .ok (.invokeinterface 274 2, 5) := by decide +kernel
theorem d52_207 : decode c52 207 = .ok (.astore 12, 2) := by decide +kernel
theorem d52_209 : decode c52 209 = .ok (.iload 11, 2) := by decide +kernel
theorem d52_211 : decode c52 211 = .ok (.aload_n 0, 1) := by decide +kernel
theorem d52_212 : decode c52 212 = .ok (.getfield 202, 3) := by decide +kernel
theorem d52_215 : decode c52 215 = .ok (.if_icmp .eq 11, 3) := by decide +kernel
theorem d52_226 : decode c52 226 = .ok (.aload 12, 2) := by decide +kernel
theorem d52_228 : decode c52 228 = .ok (.ifnonnull 5, 3) := by decide +kernel
theorem d52_233 : decode c52 233 = .ok (.aload 10, 2) := by decide +kernel
theorem d52_235 : decode c52 235 = .ok (.ifnull 19, 3) := by decide +kernel
theorem d52_254 : decode c52 254 = .ok (.aload 9, 2) := by decide +kernel
theorem d52_256 : decode c52 256 = .ok (.ifnull 19, 3) := by decide +kernel
theorem d52_275 : decode c52 275 = .ok (.aload 4, 2) := by decide +kernel
theorem d52_277 : decode c52 277 = .ok (.iload 7, 2) := by decide +kernel
theorem d52_279 : decode c52 279 = .ok (.aload_n 0, 1) := by decide +kernel
theorem d52_280 : decode c52 280 = .ok (.iload_n 3, 1) := by decide +kernel
theorem d52_281 : decode c52 281 = .ok (.aload_n 1, 1) := by decide +kernel
theorem d52_282 : decode c52 282 = .ok (.aload 12, 2) := by decide +kernel
theorem d52_284 : decode c52 284 = .ok (.aload 5, 2) := by decide +kernel
theorem d52_286 : decode c52 286 = .ok (.invokevirtual 186, 3) := by decide +kernel
theorem d52_289 : decode c52 289 = .ok (.aastore, 1) := by decide +kernel
theorem d52_290 : decode c52 290 = .ok (.iload 8, 2) := by decide +kernel
theorem d52_292 : decode c52 292 = .ok (.bipush 7, 2) := by decide +kernel
theorem d52_294 : decode c52 294 = .ok (.if_icmp .lt 10, 3) := by decide +kernel
theorem d52_304 : decode c52 304 = .ok (.aload_n 0, 1) := by decide +kernel
theorem d52_305 : decode c52 305 = .ok (.iload 11, 2) := by decide +kernel
theorem d52_307 : decode c52 307 = .ok (.iconst 1, 1) := by decide +kernel
theorem d52_308 : decode c52 308 = .ok (.iadd, 1) := by decide +kernel
theorem d52_309 : decode c52 309 = .ok (.putfield 202, 3) := by decide +kernel
theorem d52_312 : decode c52 312 = .ok (.aload_n 0, 1) := by decide +kernel
theorem d52_313 : decode c52 313 = .ok (.dup, 1) := by decide +kernel
theorem d52_314 : decode c52 314 = .ok (.getfield 156, 3) := by decide +kernel
theorem d52_317 : decode c52 317 = .ok (.iconst 1, 1) := by decide +kernel
theorem d52_318 : decode c52 318 = .ok (.iadd, 1) := by decide +kernel
theorem d52_319 : decode c52 319 = .ok (.putfield 156, 3) := by decide +kernel
theorem d52_322 : decode c52 322 = .ok (.aload_n 0, 1) := by decide +kernel
theorem d52_323 : decode c52 323 = .ok (.iconst 1, 1) := by decide +kernel
theorem d52_324 : decode c52 324 = .ok (.invokevirtual 205, 3) := by decide +kernel
theorem d52_327 : decode c52 327 = .ok (.aload 12, 2) := by decide +kernel
theorem d52_329 : decode c52 329 = .ok (.areturn, 1) := by decide +kernel
theorem ef_rm_ci_n1 (m : MethodId) (G1 : Int32) (G6 : Addr) (th : Addr) (nm : Addr) (fd : Addr) (fs : Addr) (fb : Addr) (kfb : ClassId) (fv : List Value) (fdd : Value) (nb : Addr) (knb : ClassId) (nv_ : List Value) (ndd : Value) (ky : Addr) (kb : Addr) (kkb : ClassId) (b0 : Int32) (hv : Int32) (hz : Int32) (mp : Addr) (fo : Addr) (cK : ClassId)  : entryFrame m #[(.ref mp), (.ref ky), (.ref fo)] 13 = mkF m 0 #[vR mp, vR ky, vR fo, U, U, U, U, U, U, U, U, U, U] [] := by  first | (simp [entryFrame, mkF, argsToLocals, Value.category, maxLocals]; done) | rfl
def Q_rm_ci_n1 (Z : State) (G1 : Int32) (G6 : Addr) (th : Addr) (nm : Addr) (fd : Addr) (fs : Addr) (fb : Addr) (kfb : ClassId) (fv : List Value) (fdd : Value) (nb : Addr) (knb : ClassId) (nv_ : List Value) (ndd : Value) (ky : Addr) (kb : Addr) (kkb : ClassId) (b0 : Int32) (hv : Int32) (hz : Int32) (mp : Addr) (fo : Addr) (cK : ClassId) (h0 : Heap) (n0 : Nat) (v : Option Value) (h : Heap) (vm : Vm) (L : List Loc) : Prop := ∃ (nv : Addr) (m2 : Addr) (ns : Addr) (ts : Addr) (kts : ClassId) (tv : List Value) (sa : Addr) (sbb : Addr) (ksb : ClassId) (x2 : Int32) (y2 : Int32), (v = some (.ref nv)) ∧ (Fr n0 L) ∧ (Keep h0 h [mp, ky]) ∧ (h0.size ≤ nv) ∧ (h0.size ≤ m2) ∧ (h0.size ≤ ns) ∧ (h0.size ≤ ts) ∧ (Exa Z h nv "com/example/mandoline/mandoline/Variable") ∧ (Fld Z h nv "com/example/mandoline/mandoline/Variable" "fields" "Ljava/util/Map;" (.ref m2)) ∧ (Fld Z h nv "com/example/mandoline/mandoline/Variable" "name" "Ljava/lang/String;" (.ref ns)) ∧ (Fld Z h nv "com/example/mandoline/mandoline/Variable" "containing" "Lcom/example/mandoline/mandoline/Variable;" (.ref th)) ∧ (Exa Z h m2 "java/util/LinkedHashMap") ∧ (Fld Z h m2 "java/util/HashMap" "table" "[Ljava/util/HashMap$Node;" .null) ∧ (Fld Z h m2 "java/util/HashMap" "size" "I" (.int (0 : Int32))) ∧ (Fld Z h m2 "java/util/HashMap" "modCount" "I" (.int (0 : Int32))) ∧ (Fld Z h m2 "java/util/HashMap" "threshold" "I" (.int (0 : Int32))) ∧ (Fld Z h m2 "java/util/LinkedHashMap" "putMode" "I" (.int (0 : Int32))) ∧ (Fld Z h m2 "java/util/LinkedHashMap" "head" "Ljava/util/LinkedHashMap$Entry;" .null) ∧ (Fld Z h m2 "java/util/LinkedHashMap" "tail" "Ljava/util/LinkedHashMap$Entry;" .null) ∧ (Exa Z h ns "java/lang/String") ∧ (Fld Z h ns "java/lang/String" "coder" "B" (.int (0 : Int32))) ∧ (Fld Z h ns "java/lang/String" "value" "[B" (.ref ts)) ∧ (Arv Z h ts kts .byte (3 : Int32) tv (.int (0 : Int32))) ∧ (Exa Z h sa "java/lang/String") ∧ (Fld Z h sa "java/lang/String" "coder" "B" (.int (0 : Int32))) ∧ (Fld Z h sa "java/lang/String" "value" "[B" (.ref sbb)) ∧ (Arv Z h sbb ksb .byte (1 : Int32) [(.int (46 : Int32))] (.int (0 : Int32))) ∧ (Fld Z h ky "java/lang/String" "coder" "B" (.int (0 : Int32))) ∧ (Fld Z h ky "java/lang/String" "value" "[B" (.ref kb)) ∧ (Fld Z h ky "java/lang/String" "hash" "I" (.int x2)) ∧ (Fld Z h ky "java/lang/String" "hashIsZero" "Z" (.int y2)) ∧ (IB Z vm (["."] : List String)) ∧ (Lit (Z.setVm vm) "com/example/mandoline/mandoline/Variable" 131 sa)
theorem pd__Ljava_lang_Object__I : parseMethodDescriptor "(Ljava/lang/Object;)I" = some ⟨[(.object "java/lang/Object")], (some .int)⟩ := by decide +kernel
theorem pd____Ljava_util_HashMap_Node_ : parseMethodDescriptor "()[Ljava/util/HashMap$Node;" = some ⟨[], (some (.array (.object "java/util/HashMap$Node")))⟩ := by decide +kernel
theorem pd__Ljava_lang_Object__Ljava_lang_Object_ : parseMethodDescriptor "(Ljava/lang/Object;)Ljava/lang/Object;" = some ⟨[(.object "java/lang/Object")], (some (.object "java/lang/Object"))⟩ := by decide +kernel
theorem pd__Lcom_example_mandoline_mandoline_Place_Field_Ljava_lang_String__Lcom_example_mandoline_mandoline_Variable_ : parseMethodDescriptor "(Lcom/example/mandoline/mandoline/Place$Field;Ljava/lang/String;)Lcom/example/mandoline/mandoline/Variable;" = some ⟨[(.object "com/example/mandoline/mandoline/Place$Field"), (.object "java/lang/String")], (some (.object "com/example/mandoline/mandoline/Variable"))⟩ := by decide +kernel
theorem pd__ILjava_lang_Object_Ljava_lang_Object_Ljava_util_HashMap_Node__Ljava_util_HashMap_Node_ : parseMethodDescriptor "(ILjava/lang/Object;Ljava/lang/Object;Ljava/util/HashMap$Node;)Ljava/util/HashMap$Node;" = some ⟨[.int, (.object "java/lang/Object"), (.object "java/lang/Object"), (.object "java/util/HashMap$Node")], (some (.object "java/util/HashMap$Node"))⟩ := by decide +kernel
theorem pd__Z_V : parseMethodDescriptor "(Z)V" = some ⟨[.boolean], none⟩ := by decide +kernel
set_option maxRecDepth 65536 in
set_option maxHeartbeats 40000000 in
theorem rm_ci_n1 (l : Launch) (Z : State) (a0 : Array Value) (hw : ∀ d ∈ tables_1, d.before a0 Z = true) (ws : List Jvm.Cond) (G1 : Int32) (G6 : Addr) (th : Addr) (nm : Addr) (fd : Addr) (fs : Addr) (fb : Addr) (kfb : ClassId) (fv : List Value) (fdd : Value) (nb : Addr) (knb : ClassId) (nv_ : List Value) (ndd : Value) (ky : Addr) (kb : Addr) (kkb : ClassId) (b0 : Int32) (hv : Int32) (hz : Int32) (mp : Addr) (fo : Addr) (cK : ClassId) (h0 : Heap) (n0 : Nat) (Z0 : n0 ≤ h0.size) (O2 : Sta Z Z.heap "java/lang/String" "COMPACT_STRINGS" "Z" (.int G1)) (P5 : ¬ G1 = 0) (O6 : Sta Z Z.heap "java/util/ImmutableCollections" "EMPTY_LIST" "Ljava/util/ImmutableCollections$ListN;" (.ref G6)) (f3 : Exa Z h0 th "com/example/mandoline/mandoline/Variable") (f4 : Fld Z h0 th "com/example/mandoline/mandoline/Variable" "name" "Ljava/lang/String;" (.ref nm)) (f5 : Exa Z h0 fd "com/example/mandoline/mandoline/Place$Field") (f6 : Fld Z h0 fd "com/example/mandoline/mandoline/Place$Field" "name" "Ljava/lang/String;" (.ref fs)) (f7 : Exa Z h0 fs "java/lang/String") (f8 : Fld Z h0 fs "java/lang/String" "coder" "B" (.int (0 : Int32))) (f9 : Fld Z h0 fs "java/lang/String" "value" "[B" (.ref fb)) (f10 : Arv Z h0 fb kfb .byte (1 : Int32) fv fdd) (f11 : Exa Z h0 nm "java/lang/String") (f12 : Fld Z h0 nm "java/lang/String" "coder" "B" (.int (0 : Int32))) (f13 : Fld Z h0 nm "java/lang/String" "value" "[B" (.ref nb)) (f14 : Arv Z h0 nb knb .byte (1 : Int32) nv_ ndd) (H131 : Jvm.Lit.constHeld Z "com/example/mandoline/mandoline/Variable" 131) (hcw : Jvm.Lit.compactW.before a0 Z = true) (f17 : Exa Z h0 ky "java/lang/String") (f18 : Fld Z h0 ky "java/lang/String" "coder" "B" (.int (0 : Int32))) (f19 : Fld Z h0 ky "java/lang/String" "value" "[B" (.ref kb)) (f20 : Fld Z h0 ky "java/lang/String" "hash" "I" (.int hv)) (f21 : Fld Z h0 ky "java/lang/String" "hashIsZero" "Z" (.int hz)) (f22 : Arv Z h0 kb kkb .byte (1 : Int32) [(.int b0)] (.int (0 : Int32))) (f23 : Exa Z h0 mp "java/util/LinkedHashMap") (f24 : Fld Z h0 mp "java/util/HashMap" "table" "[Ljava/util/HashMap$Node;" .null) (f25 : Fld Z h0 mp "java/util/HashMap" "size" "I" (.int (0 : Int32))) (f26 : Fld Z h0 mp "java/util/HashMap" "modCount" "I" (.int (0 : Int32))) (f27 : Fld Z h0 mp "java/util/HashMap" "threshold" "I" (.int (0 : Int32))) (f28 : Fld Z h0 mp "java/util/LinkedHashMap" "putMode" "I" (.int (0 : Int32))) (f29 : Fld Z h0 mp "java/util/LinkedHashMap" "head" "Ljava/util/LinkedHashMap$Entry;" .null) (f30 : Fld Z h0 mp "java/util/LinkedHashMap" "tail" "Ljava/util/LinkedHashMap$Entry;" .null) (f31 : Lam h0 fo cK (.ref th) (.ref fd)) (hmd : LamKit.Made Z "com/example/mandoline/mandoline/Variable" own_sg cK) (gm : n0 ≤ mp) (gk : n0 ≤ ky) (nfk : fo ≠ ky) (nfm : fo ≠ mp) (qs1 : fs ≠ ky) (qs2 : nm ≠ ky) (Old0 : OldL Z n0 h0) :
    MetW l Z y_54 c52 13 (some (.object "java/lang/Object")) ws (Rm 8 10 88 120) #[(.ref mp), (.ref ky), (.ref fo)] h0 (fun vm => IB Z vm ([] : List String)) (Q_rm_ci_n1 Z G1 G6 th nm fd fs fb kfb fv fdd nb knb nv_ ndd ky kb kkb b0 hv hz mp fo cK h0 n0) := by
 refine MetFree.of_bodySF (plainFor_of_name pn_java_util_HashMap) hisR ?_
 intro p e s m args below meth c s₁ Bd hml0 hP hK
 obtain ⟨rfl, hZ, hh, hI⟩ := hP
 have hx := Bd.exec
 have hby := Bd.bytes
 have hml : c.maxLocals = 13 := hml0
 have hown : s.vm.findClass "java/util/HashMap" = some m.cls := findClass_of_methodNamed Bd.named
 have X0 : Stand p l e (Rm 8 10 88 120) (s.setVm s.vm) m #[(.ref mp), (.ref ky), (.ref fo)] below meth c s₁ [] 0 0 := Stand.of_body Bd
 have e0 : s₁.heap = h0 := by rw [← hh, Bd.state]; rfl
 have N0 := Fr.nil n0
 have K00 : Keep h0 h0 [mp, ky] := Keep.refl _ _
 have hS0 : s.Since s.vm s.heap.size := (State.WarmedH.refl s).since _
 have hk0 : s.heap.size ≤ h0.size := by rw [hh]; exact Nat.le_refl _
 have hkeep : ∀ (b : Addr) (cl : Cell), Z.heap[b]? = some cl → s.heap[b]? = some cl := by rw [hh]; exact Old0.2.2
 show Rch p e below s₁ (entryFrame m #[(.ref mp), (.ref ky), (.ref fo)] 13) (FinW s (Q_rm_ci_n1 Z G1 G6 th nm fd fs fb kfb fv fdd nb knb nv_ ndd ky kb kkb b0 hv hz mp fo cK h0 n0) 10 88)
 refine Rch.cast (ef_rm_ci_n1 m G1 G6 th nm fd fs fb kfb fv fdd nb knb nv_ ndd ky kb kkb b0 hv hz mp fo cK) ?_
 show Rch p e below s₁ (mkF m 0 #[vR mp, vR ky, vR fo, U, U, U, U, U, U, U, U, U, U] []) _
 refine w_aloadN (pc' := 1) X0 hx hby d52_0 rfl rfl rfl ?_
 refine w_nonnullYes (pc' := 12) X0 hx hby d52_1 rfl (fun q => nomatch q) (by decide) ?_
 refine w_aloadN (pc' := 13) X0 hx hby d52_12 rfl rfl rfl ?_
 obtain ⟨_, _, ⟨T1149, L1149, k1149, n1149⟩, -, X1149, ⟨Lc1149, hQ1149, l1149, y1149, z1149⟩, st1149⟩ := Jvm.LawKit.callS X0 hx (y := y_45) hown (mvT hZ (wi hw 120 rfl)) (mvT hZ (wi hw 121 rfl)) (mvT hZ (wi hw 47 rfl)) (mvT hZ (wi hw 122 rfl)) (by decide) (backOf (W := 0) (rm_hash l Z a0 hw [] G1 ky kb kkb b0 hv hz h0 n0 Z0 (O2) (P5) f17 f18 f19 f20 f21 f22 (gk) Old0) hZ (wi hw 122 rfl) (wi hw 47 rfl) (by decide) (by decide)) (g := (mkF m 13 #[vR mp, vR ky, vR fo, U, U, U, U, U, U, U, U, U, U] [(.ref ky)])) rfl (by rw [hml]; rfl) (argsL := [(.ref ky)]) (rest := []) (lenOf pd__Ljava_lang_Object__I rfl) rfl (by show 2 * 0 + _ ≤ _; exact Nat.le_of_eq rfl) (hb hby d52_13) (fun _ _ => ⟨rfl, e0, (by decide : 0 + 0 ≤ _), (by decide : 0 + 0 ≤ _)⟩)
 dsimp only [Pt.U, Pt.locs, Pt.cells, Pt.slots] at X1149 l1149 y1149 z1149 st1149 hQ1149
 subst l1149 y1149 z1149
 obtain ⟨r_1149, x2_1149, y2_1149, rfl, NQ1149, K1149, pq1149_0, pq1149_1, fq1149_0, fq1149_1, fq1149_2, fq1149_3⟩ := hQ1149
 have N1150 := Fr.app N0 NQ1149
 have f1151 := f3.keep K1149
 have ne1152 : th ≠ ky := ne_exa f3 f17 (by decide)
 have f1153 := f4.keep K1149 (ninS ne1152 nin0)
 have f1154 := f5.keep K1149
 have ne1155 : fd ≠ ky := ne_exa f5 f17 (by decide)
 have f1156 := f6.keep K1149 (ninS ne1155 nin0)
 have f1157 := f7.keep K1149
 have f1158 := f8.keep K1149 (ninS qs1 nin0)
 have f1159 := f9.keep K1149 (ninS qs1 nin0)
 have ne1160 : fb ≠ ky := Ne.symm (Exa.neArv f17 f10 (wi hw 14 rfl))
 have f1161 := f10.keep K1149 (ninS ne1160 nin0)
 have f1162 := f11.keep K1149
 have f1163 := f12.keep K1149 (ninS qs2 nin0)
 have f1164 := f13.keep K1149 (ninS qs2 nin0)
 have ne1165 : nb ≠ ky := Ne.symm (Exa.neArv f17 f14 (wi hw 14 rfl))
 have f1166 := f14.keep K1149 (ninS ne1165 nin0)
 have f1167 := f17.keep K1149
 have f1170 := f23.keep K1149
 have ne1171 : mp ≠ ky := ne_exa f23 f17 (by decide)
 have f1172 := f24.keep K1149 (ninS ne1171 nin0)
 have f1173 := f25.keep K1149 (ninS ne1171 nin0)
 have f1174 := f26.keep K1149 (ninS ne1171 nin0)
 have f1175 := f27.keep K1149 (ninS ne1171 nin0)
 have f1176 := f28.keep K1149 (ninS ne1171 nin0)
 have f1177 := f29.keep K1149 (ninS ne1171 nin0)
 have f1178 := f30.keep K1149 (ninS ne1171 nin0)
 have f1179 := f31.keep K1149 (ninS nfk nin0)
 have Old1180 := Old0.keep K1149 (allS gk all0)
 have Kp1181 : Keep h0 T1149.heap [mp, ky] := K00.trans K1149 (allS (Or.inl (List.mem_of_getElem? (i := 1) rfl)) all0)
 have Z1182 := Nat.le_trans Z0 K1149.1
 have hk1183 := Nat.le_trans hk0 K1149.1
 refine Rch.st (fun _ k => st1149 _ k) ?_
 show Rch p e below T1149 (mkF m 16 #[vR mp, vR ky, vR fo, U, U, U, U, U, U, U, U, U, U] [(.int r_1149)]) _
 refine w_istoreN (pc' := 17) (l' := #[vR mp, vR ky, vR fo, vI r_1149, U, U, U, U, U, U, U, U, U]) X1149 hx hby d52_16 rfl rfl ?_
 refine w_iconst (pc' := 18) (v := 0) X1149 hx hby d52_17 rfl rfl ?_
 refine w_istore (pc' := 20) (l' := #[vR mp, vR ky, vR fo, vI r_1149, U, U, U, U, vI 0, U, U, U, U]) X1149 hx hby d52_18 rfl rfl ?_
 refine w_aconstNull (pc' := 21) X1149 hx hby d52_20 rfl ?_
 refine w_astore (pc' := 23) (l' := #[vR mp, vR ky, vR fo, vI r_1149, U, U, U, U, vI 0, vN, U, U, U]) X1149 hx hby d52_21 rfl rfl rfl ?_
 refine w_aconstNull (pc' := 24) X1149 hx hby d52_23 rfl ?_
 refine w_astore (pc' := 26) (l' := #[vR mp, vR ky, vR fo, vI r_1149, U, U, U, U, vI 0, vN, vN, U, U]) X1149 hx hby d52_24 rfl rfl rfl ?_
 refine w_aloadN (pc' := 27) X1149 hx hby d52_26 rfl rfl rfl ?_
 obtain ⟨T1184, X1184, e1184, st1184⟩ := getF X1149 hx hZ hown (host := "") (Or.inl (wi hw 141 rfl)) Via.refl (rfl : T1149.heap = T1149.heap) f1173 (g := (mkF m 27 #[vR mp, vR ky, vR fo, vI r_1149, U, U, U, U, vI 0, vN, vN, U, U] [(.ref mp)])) rfl rfl (hb hby d52_27)
 refine Rch.st (fun _ k => st1184 _ k) ?_
 show Rch p e below T1184 (mkF m 30 #[vR mp, vR ky, vR fo, vI r_1149, U, U, U, U, vI 0, vN, vN, U, U] [(.int 0)]) _
 refine w_aloadN (pc' := 31) X1184 hx hby d52_30 rfl rfl rfl ?_
 obtain ⟨T1185, X1185, e1185, st1185⟩ := getF X1184 hx hZ hown (host := "") (Or.inl (wi hw 143 rfl)) Via.refl e1184 f1175 (g := (mkF m 31 #[vR mp, vR ky, vR fo, vI r_1149, U, U, U, U, vI 0, vN, vN, U, U] [(.ref mp), (.int 0)])) rfl rfl (hb hby d52_31)
 refine Rch.st (fun _ k => st1185 _ k) ?_
 show Rch p e below T1185 (mkF m 34 #[vR mp, vR ky, vR fo, vI r_1149, U, U, U, U, vI 0, vN, vN, U, U] [(.int 0), (.int 0)]) _
 refine w_icmpNo (pc' := 37) X1185 hx hby d52_34 (XT.ii_gt_f (by decide)) rfl ?_
 refine w_aloadN (pc' := 38) X1185 hx hby d52_37 rfl rfl rfl ?_
 obtain ⟨T1186, X1186, e1186, st1186⟩ := getF X1185 hx hZ hown (host := "") (Or.inl (wi hw 145 rfl)) Via.refl e1185 f1172 (g := (mkF m 38 #[vR mp, vR ky, vR fo, vI r_1149, U, U, U, U, vI 0, vN, vN, U, U] [(.ref mp)])) rfl rfl (hb hby d52_38)
 refine Rch.st (fun _ k => st1186 _ k) ?_
 show Rch p e below T1186 (mkF m 41 #[vR mp, vR ky, vR fo, vI r_1149, U, U, U, U, vI 0, vN, vN, U, U] [.null]) _
 refine w_dup (pc' := 42) X1186 hx hby d52_41 rfl rfl ?_
 refine w_astore (pc' := 44) (l' := #[vR mp, vR ky, vR fo, vI r_1149, vN, U, U, U, vI 0, vN, vN, U, U]) X1186 hx hby d52_42 rfl rfl rfl ?_
 refine w_nullYes (pc' := 56) X1186 hx hby d52_44 (rfl) (by decide) ?_
 refine w_aloadN (pc' := 57) X1186 hx hby d52_56 rfl rfl rfl ?_
 obtain ⟨cq1187, kq1187, q1187a, q1187b, q1187c⟩ := isOf hZ e1186 f1170
 obtain ⟨_, _, ⟨T1187, L1187, k1187, n1187⟩, -, X1187, ⟨Lc1187, hQ1187, l1187, y1187, z1187⟩, st1187⟩ := X1186.virtualBack hx (y := y_47) (z := y_47) hown (mvT hZ (wi hw 147 rfl)) (mvT hZ (wi hw 148 rfl)) (notFace_of_selects (args := #[]) (mvT hZ (wi hw 150 rfl))) (mvT hZ (wi hw 150 rfl)) (mvT hZ (wi hw 149 rfl)) (by decide) (backOf (W := 0) (rm_rs l Z a0 hw [] mp T1149.heap n0 Z1182 f1170 f1172 f1173 f1174 f1175 f1176 f1177 f1178 (gm)) hZ (wi hw 151 rfl) (wi hw 47 rfl) (by decide) (by decide)) q1187a q1187c (g := (mkF m 57 #[vR mp, vR ky, vR fo, vI r_1149, vN, U, U, U, vI 0, vN, vN, U, U] [(.ref mp)])) rfl (by rw [hml]; rfl) (Steps.refl _) (argsL := []) (rest := []) (lenOf pd____Ljava_util_HashMap_Node_ rfl) rfl (by show 2 * 0 + _ ≤ _; exact Nat.le_of_eq rfl) (hb hby d52_57) (fun _ _ => ⟨rfl, e1186, (by decide : 0 + 1 ≤ _), (by decide : 0 + 16 ≤ _)⟩)
 dsimp only [Pt.U, Pt.locs, Pt.cells, Pt.slots] at X1187 l1187 y1187 z1187 st1187 hQ1187
 subst l1187 y1187 z1187
 obtain ⟨t_1187, kt_1187, rfl, NQ1187, K1187, pq1187_0, pq1187_1, fq1187_0, fq1187_1, fq1187_2, fq1187_3, fq1187_4, fq1187_5, fq1187_6, fq1187_7⟩ := hQ1187
 have N1188 := Fr.app N1150 NQ1187
 have ne1194 := nlt f1167.lt pq1187_0
 have ne1195 := nlt f1170.lt pq1187_0
 have ge1199 : n0 ≤ t_1187 := Nat.le_trans Z1182 pq1187_0
 have f1200 := f1151.keep K1187
 have ne1201 : th ≠ mp := ne_exa f1151 f1170 (by decide)
 have f1202 := f1153.keep K1187 (ninS ne1201 nin0)
 have f1203 := f1154.keep K1187
 have ne1204 : fd ≠ mp := ne_exa f1154 f1170 (by decide)
 have f1205 := f1156.keep K1187 (ninS ne1204 nin0)
 have f1206 := f1157.keep K1187
 have ne1207 : fs ≠ mp := ne_exa f1157 f1170 (by decide)
 have f1208 := f1158.keep K1187 (ninS ne1207 nin0)
 have f1209 := f1159.keep K1187 (ninS ne1207 nin0)
 have ne1210 : fb ≠ mp := Ne.symm (Exa.neArv f1170 f1161 (wi hw 38 rfl))
 have f1211 := f1161.keep K1187 (ninS ne1210 nin0)
 have f1212 := f1162.keep K1187
 have ne1213 : nm ≠ mp := ne_exa f1162 f1170 (by decide)
 have f1214 := f1163.keep K1187 (ninS ne1213 nin0)
 have f1215 := f1164.keep K1187 (ninS ne1213 nin0)
 have ne1216 : nb ≠ mp := Ne.symm (Exa.neArv f1170 f1166 (wi hw 38 rfl))
 have f1217 := f1166.keep K1187 (ninS ne1216 nin0)
 have f1218 := f1167.keep K1187
 have f1221 := f1170.keep K1187
 have f1222 := f1179.keep K1187 (ninS nfm nin0)
 have f1223 := fq1149_0.keep K1187 (ninS (Ne.symm ne1171) nin0)
 have f1224 := fq1149_1.keep K1187 (ninS (Ne.symm ne1171) nin0)
 have f1225 := fq1149_2.keep K1187 (ninS (Ne.symm ne1171) nin0)
 have f1226 := fq1149_3.keep K1187 (ninS (Ne.symm ne1171) nin0)
 have Old1227 := Old1180.keep K1187 (allS gm all0)
 have Kp1228 : Keep h0 T1187.heap [mp, ky] := Kp1181.trans K1187 (allS (Or.inl (List.mem_of_getElem? (i := 0) rfl)) all0)
 have Z1229 := Nat.le_trans Z1182 K1187.1
 have hk1230 := Nat.le_trans hk1183 K1187.1
 refine Rch.st (fun _ k => st1187.trans k) ?_
 show Rch p e below T1187 (mkF m 60 #[vR mp, vR ky, vR fo, vI r_1149, vN, U, U, U, vI 0, vN, vN, U, U] [(.ref t_1187)]) _
 refine w_dup (pc' := 61) X1187 hx hby d52_60 rfl rfl ?_
 refine w_astore (pc' := 63) (l' := #[vR mp, vR ky, vR fo, vI r_1149, vR t_1187, U, U, U, vI 0, vN, vN, U, U]) X1187 hx hby d52_61 rfl rfl rfl ?_
 refine Rch.st (fun _ k => own_alen X1187 hx hZ (rfl : T1187.heap = T1187.heap) fq1187_7 rfl rfl (hb hby d52_63) k) ?_
 show Rch p e below T1187 (mkF m 64 #[vR mp, vR ky, vR fo, vI r_1149, vR t_1187, U, U, U, vI 0, vN, vN, U, U] [(.int 16)]) _
 refine w_istore (pc' := 66) (l' := #[vR mp, vR ky, vR fo, vI r_1149, vR t_1187, U, vI 16, U, vI 0, vN, vN, U, U]) X1187 hx hby d52_64 rfl rfl ?_
 refine w_aload (pc' := 68) X1187 hx hby d52_66 rfl rfl rfl ?_
 refine w_iload (pc' := 70) X1187 hx hby d52_68 rfl rfl ?_
 refine w_iconst (pc' := 71) (v := 1) X1187 hx hby d52_70 rfl rfl ?_
 refine w_isub (pc' := 72) X1187 hx hby d52_71 rfl ?_
 refine w_iloadN (pc' := 73) X1187 hx hby d52_72 rfl rfl ?_
 refine w_iand (pc' := 74) X1187 hx hby d52_73 rfl ?_
 refine w_dup (pc' := 75) X1187 hx hby d52_74 rfl rfl ?_
 refine w_istore (pc' := 77) (l' := #[vR mp, vR ky, vR fo, vI r_1149, vR t_1187, U, vI 16, vI (((16 : Int32) - (1 : Int32)) &&& r_1149), vI 0, vN, vN, U, U]) X1187 hx hby d52_75 rfl rfl ?_
 refine Rch.st (fun _ k => own_ldA X1187 hx hZ (rfl : T1187.heap = T1187.heap) fq1187_7 (j := (((16 : Int32) - (1 : Int32)) &&& r_1149)) (own_idx _) (v := .null) (by simp) rfl rfl (hb hby d52_77) k) ?_
 show Rch p e below T1187 (mkF m 78 #[vR mp, vR ky, vR fo, vI r_1149, vR t_1187, U, vI 16, vI (((16 : Int32) - (1 : Int32)) &&& r_1149), vI 0, vN, vN, U, U] [.null]) _
 refine w_dup (pc' := 79) X1187 hx hby d52_78 rfl rfl ?_
 refine w_astore (pc' := 81) (l' := #[vR mp, vR ky, vR fo, vI r_1149, vR t_1187, vN, vI 16, vI (((16 : Int32) - (1 : Int32)) &&& r_1149), vI 0, vN, vN, U, U]) X1187 hx hby d52_79 rfl rfl rfl ?_
 refine w_nullYes (pc' := 194) X1187 hx hby d52_81 (rfl) (by decide) ?_
 refine w_aloadN (pc' := 195) X1187 hx hby d52_194 rfl rfl rfl ?_
 obtain ⟨T1231, X1231, e1231, st1231⟩ := getF X1187 hx hZ hown (host := "") (Or.inl (wi hw 154 rfl)) Via.refl (rfl : T1187.heap = T1187.heap) fq1187_2 (g := (mkF m 195 #[vR mp, vR ky, vR fo, vI r_1149, vR t_1187, vN, vI 16, vI (((16 : Int32) - (1 : Int32)) &&& r_1149), vI 0, vN, vN, U, U] [(.ref mp)])) rfl rfl (hb hby d52_195)
 refine Rch.st (fun _ k => st1231 _ k) ?_
 show Rch p e below T1231 (mkF m 198 #[vR mp, vR ky, vR fo, vI r_1149, vR t_1187, vN, vI 16, vI (((16 : Int32) - (1 : Int32)) &&& r_1149), vI 0, vN, vN, U, U] [(.int 0)]) _
 refine w_istore (pc' := 200) (l' := #[vR mp, vR ky, vR fo, vI r_1149, vR t_1187, vN, vI 16, vI (((16 : Int32) - (1 : Int32)) &&& r_1149), vI 0, vN, vN, vI 0, U]) X1231 hx hby d52_198 rfl rfl ?_
 refine w_aloadN (pc' := 201) X1231 hx hby d52_200 rfl rfl rfl ?_
 refine w_aloadN (pc' := 202) X1231 hx hby d52_201 rfl rfl rfl ?_
 obtain ⟨_, _, ⟨T1232, L1232, k1232, n1232⟩, -, X1232, hSx1232, hgx1232, ⟨Lc1232, hQ1232, l1232, y1232, z1232⟩, st1232⟩ := own_apply X1231 hx hZ hown (xi := y_0) (y := y_1) (wi hw 156 rfl) (wi hw 157 rfl) (mvT hZ (wi hw 158 rfl)) hmd own_hok own_hc0 own_hc1 own_hcl (wi hw 110 rfl) (wi hw 2 rfl) (wi hw 159 rfl) (wi hw 160 rfl) (wi hw 161 rfl) (wi hw 3 rfl) own_hxi own_hy (by decide) (by decide) e1231 f1222 f1200 f1218 (PV := fun vm => IB Z vm ([] : List String)) (rm_lam_n1 l Z a0 hw [] G1 G6 th nm fd fs fb kfb fv fdd nb knb nv_ ndd ky T1187.heap n0 Z1229 (O2) (P5) (O6) f1200 f1202 f1203 f1205 f1206 f1208 f1209 f1211 f1212 f1214 f1215 f1217 (H131) (hcw) Old1227) (fun vm hW => own_ib (s := s.setVm s.vm) hI hW) (fun _ _ _ _ q => by obtain ⟨_, _, _, _, _, _, _, _, _, ee, -⟩ := q; exact ⟨_, ee, rfl⟩) (lenOf pd__Lcom_example_mandoline_mandoline_Place_Field_Ljava_lang_String__Lcom_example_mandoline_mandoline_Variable_ rfl) (lenOf pd__Ljava_lang_Object__Ljava_lang_Object_ rfl) (g := (mkF m 202 #[vR mp, vR ky, vR fo, vI r_1149, vR t_1187, vN, vI 16, vI (((16 : Int32) - (1 : Int32)) &&& r_1149), vI 0, vN, vN, vI 0, U] [(.ref ky), (.ref fo)])) rfl (by rw [hml]; rfl) (rest := []) rfl (hb hby d52_202) (by decide) (by show 2 * 0 + 0 + (2 + 11) + _ ≤ _; decide) (by decide : 1 + 8 ≤ _) (by decide : 16 + 66 ≤ _)
 dsimp only [Pt.U, Pt.locs, Pt.cells, Pt.slots] at X1232 l1232 y1232 z1232 st1232 hQ1232 hSx1232 hgx1232
 subst l1232 y1232 z1232
 have hS1232 := foldS hS0 (by rw [e1231]; exact hk1230) hSx1232 hgx1232
 have hk1232 : T1232.heap.size ≤ T1232.heap.size := Nat.le_refl _
 have hZ1232 : Z.Warmed39 (s.setVm T1232.vm).vm := State.Warmed39.trans (t := s.setVm s.vm) hZ hSx1232.1
 have hown1232 : (s.setVm T1232.vm).vm.findClass "java/util/HashMap" = some m.cls := by rw [show (s.setVm T1232.vm).vm = T1232.vm from rfl, hSx1232.1.alike.findClass]; exact hown
 have X1232w : Stand p l e (Rm 8 10 88 120) (s.setVm T1232.vm) m _ below meth c T1232 _ _ _ := X1232
 obtain ⟨nv_1232, m2_1232, ns_1232, ts_1232, kts_1232, tv_1232, sa_1232, sbb_1232, ksb_1232, rfl, NQ1232, K1232, pq1232_0, pq1232_1, pq1232_2, pq1232_3, fq1232_0, fq1232_1, fq1232_2, fq1232_3, fq1232_4, fq1232_5, fq1232_6, fq1232_7, fq1232_8, fq1232_9, fq1232_10, fq1232_11, fq1232_12, fq1232_13, fq1232_14, fq1232_15, fq1232_16, fq1232_17, fq1232_18, fq1232_19, IQ1232, LQ1232_0⟩ := hQ1232
 have N1233 := Fr.app N1188 NQ1232
 have ne1240 := nlt f1221.lt pq1232_0
 have ne1243 := nlt fq1187_7.lt pq1232_0
 have ne1252 := nlt f1221.lt pq1232_1
 have ne1255 := nlt fq1187_7.lt pq1232_1
 have ne1264 := nlt f1221.lt pq1232_2
 have ne1267 := nlt fq1187_7.lt pq1232_2
 have ne1276 := nlt f1221.lt pq1232_3
 have ne1279 := nlt fq1187_7.lt pq1232_3
 have f1296 := f1221.keep K1232
 have f1298 := f1223.keep K1232 nin0
 have f1299 := f1224.keep K1232 nin0
 have f1300 := f1225.keep K1232 nin0
 have f1301 := f1226.keep K1232 nin0
 have f1302 := fq1187_0.keep K1232 nin0
 have f1303 := fq1187_1.keep K1232 nin0
 have f1304 := fq1187_2.keep K1232 nin0
 have f1305 := fq1187_3.keep K1232 nin0
 have f1306 := fq1187_4.keep K1232 nin0
 have f1307 := fq1187_5.keep K1232 nin0
 have f1308 := fq1187_6.keep K1232 nin0
 have f1309 := fq1187_7.keep K1232 nin0
 have Kp1311 : Keep h0 T1232.heap [mp, ky] := Kp1228.trans K1232 all0
 have Z1312 := Nat.le_trans Z1229 K1232.1
 refine Rch.st (fun _ k => st1232.trans k) ?_
 show Rch p e below T1232 (mkF m 207 #[vR mp, vR ky, vR fo, vI r_1149, vR t_1187, vN, vI 16, vI (((16 : Int32) - (1 : Int32)) &&& r_1149), vI 0, vN, vN, vI 0, U] [(.ref nv_1232)]) _
 refine w_astore (pc' := 209) (l' := #[vR mp, vR ky, vR fo, vI r_1149, vR t_1187, vN, vI 16, vI (((16 : Int32) - (1 : Int32)) &&& r_1149), vI 0, vN, vN, vI 0, vR nv_1232]) X1232w hx hby d52_207 rfl rfl rfl ?_
 refine w_iload (pc' := 211) X1232w hx hby d52_209 rfl rfl ?_
 refine w_aloadN (pc' := 212) X1232w hx hby d52_211 rfl rfl rfl ?_
 obtain ⟨T1313, X1313, e1313, st1313⟩ := getF X1232w hx hZ1232 hown1232 (host := "") (Or.inl (wi hw 154 rfl)) Via.refl (rfl : T1232.heap = T1232.heap) f1304 (g := (mkF m 212 #[vR mp, vR ky, vR fo, vI r_1149, vR t_1187, vN, vI 16, vI (((16 : Int32) - (1 : Int32)) &&& r_1149), vI 0, vN, vN, vI 0, vR nv_1232] [(.ref mp), (.int 0)])) rfl rfl (hb hby d52_212)
 refine Rch.st (fun _ k => st1313 _ k) ?_
 show Rch p e below T1313 (mkF m 215 #[vR mp, vR ky, vR fo, vI r_1149, vR t_1187, vN, vI 16, vI (((16 : Int32) - (1 : Int32)) &&& r_1149), vI 0, vN, vN, vI 0, vR nv_1232] [(.int 0), (.int 0)]) _
 refine w_icmpYes (pc' := 226) X1313 hx hby d52_215 (XT.ii_eq_t (rfl)) (by decide) ?_
 refine w_aload (pc' := 228) X1313 hx hby d52_226 rfl rfl rfl ?_
 refine w_nonnullYes (pc' := 233) X1313 hx hby d52_228 rfl (fun q => nomatch q) (by decide) ?_
 refine w_aload (pc' := 235) X1313 hx hby d52_233 rfl rfl rfl ?_
 refine w_nullYes (pc' := 254) X1313 hx hby d52_235 (rfl) (by decide) ?_
 refine w_aload (pc' := 256) X1313 hx hby d52_254 rfl rfl rfl ?_
 refine w_nullYes (pc' := 275) X1313 hx hby d52_256 (rfl) (by decide) ?_
 refine w_aload (pc' := 277) X1313 hx hby d52_275 rfl rfl rfl ?_
 refine w_iload (pc' := 279) X1313 hx hby d52_277 rfl rfl ?_
 refine w_aloadN (pc' := 280) X1313 hx hby d52_279 rfl rfl rfl ?_
 refine w_iloadN (pc' := 281) X1313 hx hby d52_280 rfl rfl ?_
 refine w_aloadN (pc' := 282) X1313 hx hby d52_281 rfl rfl rfl ?_
 refine w_aload (pc' := 284) X1313 hx hby d52_282 rfl rfl rfl ?_
 refine w_aload (pc' := 286) X1313 hx hby d52_284 rfl rfl rfl ?_
 obtain ⟨cq1314, kq1314, q1314a, q1314b, q1314c⟩ := isOf hZ1232 e1313 f1296
 obtain ⟨_, _, ⟨T1314, L1314, k1314, n1314⟩, -, X1314, ⟨Lc1314, hQ1314, l1314, y1314, z1314⟩, st1314⟩ := X1313.virtualBack hx (y := y_55) (z := y_51) hown1232 (mvT hZ1232 (wi hw 286 rfl)) (mvT hZ1232 (wi hw 287 rfl)) (own_nf (args := #[]) (mvT hZ1232 (wi hw 114 rfl)) rfl) (mvT hZ1232 (wi hw 289 rfl)) (mvT hZ1232 (wi hw 290 rfl)) (by decide) (backOf (W := 2) (rm_nn l Z a0 hw [] mp t_1187 r_1149 ky nv_1232 T1232.heap n0 Z1312 f1296 f1302 f1303 f1304 f1305 f1306 f1307 f1308 (gm)) hZ1232 (wi hw 291 rfl) (wi hw 39 rfl) (by decide) (by decide)) q1314a q1314c (g := (mkF m 286 #[vR mp, vR ky, vR fo, vI r_1149, vR t_1187, vN, vI 16, vI (((16 : Int32) - (1 : Int32)) &&& r_1149), vI 0, vN, vN, vI 0, vR nv_1232] [.null, (.ref nv_1232), (.ref ky), (.int r_1149), (.ref mp), (.int (((16 : Int32) - (1 : Int32)) &&& r_1149)), (.ref t_1187)])) rfl (by rw [hml]; rfl) (Steps.refl _) (argsL := [(.int r_1149), (.ref ky), (.ref nv_1232), .null]) (rest := [(.int (((16 : Int32) - (1 : Int32)) &&& r_1149)), (.ref t_1187)]) (lenOf pd__ILjava_lang_Object_Ljava_lang_Object_Ljava_util_HashMap_Node__Ljava_util_HashMap_Node_ rfl) rfl (by show 2 * 0 + _ ≤ _; exact Nat.le_of_eq rfl) (hb hby d52_286) (fun _ _ => ⟨rfl, e1313, (by decide : 9 + 1 ≤ _), (by decide : 82 + 6 ≤ _)⟩)
 dsimp only [Pt.U, Pt.locs, Pt.cells, Pt.slots] at X1314 l1314 y1314 z1314 st1314 hQ1314
 subst l1314 y1314 z1314
 obtain ⟨en_1314, rfl, NQ1314, K1314, pq1314_0, fq1314_0, fq1314_1, fq1314_2, fq1314_3, fq1314_4, fq1314_5, fq1314_6, fq1314_7⟩ := hQ1314
 have N1315 := Fr.app N1233 NQ1314
 have f1348 := f1296.keep K1314
 have f1350 := f1298.keep K1314 (ninS (Ne.symm ne1171) nin0)
 have f1351 := f1299.keep K1314 (ninS (Ne.symm ne1171) nin0)
 have f1352 := f1300.keep K1314 (ninS (Ne.symm ne1171) nin0)
 have f1353 := f1301.keep K1314 (ninS (Ne.symm ne1171) nin0)
 have f1354 := f1309.keep K1314 (ninS (Ne.symm ne1195) nin0)
 have f1355 := fq1232_0.keep K1314
 have f1356 := fq1232_1.keep K1314 (ninS (Ne.symm ne1240) nin0)
 have f1357 := fq1232_2.keep K1314 (ninS (Ne.symm ne1240) nin0)
 have f1358 := fq1232_3.keep K1314 (ninS (Ne.symm ne1240) nin0)
 have f1359 := fq1232_4.keep K1314
 have f1360 := fq1232_5.keep K1314 (ninS (Ne.symm ne1252) nin0)
 have f1361 := fq1232_6.keep K1314 (ninS (Ne.symm ne1252) nin0)
 have f1362 := fq1232_7.keep K1314 (ninS (Ne.symm ne1252) nin0)
 have f1363 := fq1232_8.keep K1314 (ninS (Ne.symm ne1252) nin0)
 have f1364 := fq1232_9.keep K1314 (ninS (Ne.symm ne1252) nin0)
 have f1365 := fq1232_10.keep K1314 (ninS (Ne.symm ne1252) nin0)
 have f1366 := fq1232_11.keep K1314 (ninS (Ne.symm ne1252) nin0)
 have f1367 := fq1232_12.keep K1314
 have f1368 := fq1232_13.keep K1314 (ninS (Ne.symm ne1264) nin0)
 have f1369 := fq1232_14.keep K1314 (ninS (Ne.symm ne1264) nin0)
 have f1370 := fq1232_15.keep K1314 (ninS (Ne.symm ne1276) nin0)
 have f1371 := fq1232_16.keep K1314
 have ne1372 : sa_1232 ≠ mp := ne_exa fq1232_16 f1296 (by decide)
 have f1373 := fq1232_17.keep K1314 (ninS ne1372 nin0)
 have f1374 := fq1232_18.keep K1314 (ninS ne1372 nin0)
 have ne1375 : sbb_1232 ≠ mp := Ne.symm (Exa.neArv f1296 fq1232_19 (wi hw 38 rfl))
 have f1376 := fq1232_19.keep K1314 (ninS ne1375 nin0)
 have Kp1378 : Keep h0 T1314.heap [mp, ky] := Kp1311.trans K1314 (allS (Or.inl (List.mem_of_getElem? (i := 0) rfl)) all0)
 have Z1379 := Nat.le_trans Z1312 K1314.1
 have hk1380 := Nat.le_trans hk1232 K1314.1
 refine Rch.st (fun _ k => st1314.trans k) ?_
 show Rch p e below T1314 (mkF m 289 #[vR mp, vR ky, vR fo, vI r_1149, vR t_1187, vN, vI 16, vI (((16 : Int32) - (1 : Int32)) &&& r_1149), vI 0, vN, vN, vI 0, vR nv_1232] [(.ref en_1314), (.int (((16 : Int32) - (1 : Int32)) &&& r_1149)), (.ref t_1187)]) _
 obtain ⟨T1381, h1381, X1381, e1381, W1381, st1381⟩ := own_stA X1314 hx hZ1232 (rfl : T1314.heap = T1314.heap) f1354 (pq1187_1) (Ins.of_exa fq1314_0 (wi hw 302 rfl)) (j := (((16 : Int32) - (1 : Int32)) &&& r_1149)) (own_idx _) (g := (mkF m 289 #[vR mp, vR ky, vR fo, vI r_1149, vR t_1187, vN, vI 16, vI (((16 : Int32) - (1 : Int32)) &&& r_1149), vI 0, vN, vN, vI 0, vR nv_1232] [(.ref en_1314), (.int (((16 : Int32) - (1 : Int32)) &&& r_1149)), (.ref t_1187)])) rfl rfl (hb hby d52_289)
 have N1382 := Fr.snoc X1381 N1315 ge1199
 have f1397 := f1348.wr W1381
 have f1399 := f1350.other W1381 (Or.inl ne1194)
 have f1400 := f1351.other W1381 (Or.inl ne1194)
 have f1401 := f1352.other W1381 (Or.inl ne1194)
 have f1402 := f1353.other W1381 (Or.inl ne1194)
 have f1403 := f1355.wr W1381
 have f1404 := f1356.other W1381 (Or.inl (Ne.symm ne1243))
 have f1405 := f1357.other W1381 (Or.inl (Ne.symm ne1243))
 have f1406 := f1358.other W1381 (Or.inl (Ne.symm ne1243))
 have f1407 := f1359.wr W1381
 have f1408 := f1360.other W1381 (Or.inl (Ne.symm ne1255))
 have f1409 := f1361.other W1381 (Or.inl (Ne.symm ne1255))
 have f1410 := f1362.other W1381 (Or.inl (Ne.symm ne1255))
 have f1411 := f1363.other W1381 (Or.inl (Ne.symm ne1255))
 have f1412 := f1364.other W1381 (Or.inl (Ne.symm ne1255))
 have f1413 := f1365.other W1381 (Or.inl (Ne.symm ne1255))
 have f1414 := f1366.other W1381 (Or.inl (Ne.symm ne1255))
 have f1415 := f1367.wr W1381
 have f1416 := f1368.other W1381 (Or.inl (Ne.symm ne1267))
 have f1417 := f1369.other W1381 (Or.inl (Ne.symm ne1267))
 have f1418 := f1370.other W1381 (Ne.symm ne1279)
 have f1419 := f1371.wr W1381
 have ne1420 : sa_1232 ≠ t_1187 := Exa.neArv f1371 f1354 (wi hw 14 rfl)
 have f1421 := f1373.other W1381 (Or.inl ne1420)
 have f1422 := f1374.other W1381 (Or.inl ne1420)
 have ne1423 : sbb_1232 ≠ t_1187 := own_neLen f1376 f1354 (by decide)
 have f1424 := f1376.other W1381 ne1423
 have f1427 := fq1314_2.other W1381 (Or.inl ne1195)
 have f1428 := fq1314_3.other W1381 (Or.inl ne1195)
 have f1431 := fq1314_6.other W1381 (Or.inl ne1195)
 have Z1434 := Nat.le_trans Z1379 (Keep.of_wr W1381).1
 have hk1435 := Nat.le_trans hk1380 (Keep.of_wr W1381).1
 have Kp1436 : Keep h0 h1381 [mp, ky] := Kp1378.wr W1381 (Or.inr (Nat.le_trans Kp1181.1 pq1187_0))
 refine Rch.st (fun _ k => st1381 _ k) ?_
 show Rch p e below T1381 (mkF m 290 #[vR mp, vR ky, vR fo, vI r_1149, vR t_1187, vN, vI 16, vI (((16 : Int32) - (1 : Int32)) &&& r_1149), vI 0, vN, vN, vI 0, vR nv_1232] []) _
 refine w_iload (pc' := 292) X1381 hx hby d52_290 rfl rfl ?_
 refine w_bipush (pc' := 294) (v := 7) X1381 hx hby d52_292 rfl rfl ?_
 refine w_icmpYes (pc' := 304) X1381 hx hby d52_294 (XT.ii_lt_t (by decide)) (by decide) ?_
 refine w_aloadN (pc' := 305) X1381 hx hby d52_304 rfl rfl rfl ?_
 refine w_iload (pc' := 307) X1381 hx hby d52_305 rfl rfl ?_
 refine w_iconst (pc' := 308) (v := 1) X1381 hx hby d52_307 rfl rfl ?_
 refine w_iadd (pc' := 309) X1381 hx hby d52_308 rfl ?_
 obtain ⟨T1437, h1437, X1437, e1437, W1437, st1437⟩ := putF X1381 hx hZ1232 hown1232 (host := "") (Or.inl (wi hw 154 rfl)) Via.refl e1381 f1428 f1397 (Or.inl (wi hw 155 rfl)) (wi hw 38 rfl) (ty := .int) (by decide) rfl rfl (g := (mkF m 309 #[vR mp, vR ky, vR fo, vI r_1149, vR t_1187, vN, vI 16, vI (((16 : Int32) - (1 : Int32)) &&& r_1149), vI 0, vN, vN, vI 0, vR nv_1232] [(.int ((0 : Int32) + (1 : Int32))), (.ref mp)])) rfl rfl (hb hby d52_309)
 have N1438 := Fr.snoc X1437 N1382 gm
 have f1453 := f1397.wr W1437
 have f1455 := f1399.other W1437 (Or.inl (Ne.symm ne1171))
 have f1456 := f1400.other W1437 (Or.inl (Ne.symm ne1171))
 have f1457 := f1401.other W1437 (Or.inl (Ne.symm ne1171))
 have f1458 := f1402.other W1437 (Or.inl (Ne.symm ne1171))
 have f1459 := f1403.wr W1437
 have f1460 := f1404.other W1437 (Or.inl (Ne.symm ne1240))
 have f1461 := f1405.other W1437 (Or.inl (Ne.symm ne1240))
 have f1462 := f1406.other W1437 (Or.inl (Ne.symm ne1240))
 have f1463 := f1407.wr W1437
 have f1464 := f1408.other W1437 (Or.inl (Ne.symm ne1252))
 have f1465 := f1409.other W1437 (Or.inl (Ne.symm ne1252))
 have f1466 := f1410.other W1437 (Or.inl (Ne.symm ne1252))
 have f1467 := f1411.other W1437 (Or.inl (Ne.symm ne1252))
 have f1468 := f1412.other W1437 (Or.inl (Ne.symm ne1252))
 have f1469 := f1413.other W1437 (Or.inl (Ne.symm ne1252))
 have f1470 := f1414.other W1437 (Or.inl (Ne.symm ne1252))
 have f1471 := f1415.wr W1437
 have f1472 := f1416.other W1437 (Or.inl (Ne.symm ne1264))
 have f1473 := f1417.other W1437 (Or.inl (Ne.symm ne1264))
 have f1474 := f1418.other W1437 (Ne.symm ne1276)
 have f1475 := f1419.wr W1437
 have f1476 := f1421.other W1437 (Or.inl ne1372)
 have f1477 := f1422.other W1437 (Or.inl ne1372)
 have f1478 := f1424.other W1437 ne1375
 have f1481 := f1427.other W1437 (Or.inr (slot_ne (t := .int) (t' := .int) (Or.inl (wi hw 142 rfl)) (Or.inl (wi hw 155 rfl)) (by decide) (by decide) (by decide)))
 have f1485 := f1431.other W1437 (Or.inr (slot_ne (t := (.object "java/util/LinkedHashMap$Entry")) (t' := .int) (Or.inl (wi hw 322 rfl)) (Or.inl (wi hw 155 rfl)) (by decide) (by decide) (by decide)))
 have Z1488 := Nat.le_trans Z1434 (Keep.of_wr W1437).1
 have hk1489 := Nat.le_trans hk1435 (Keep.of_wr W1437).1
 have Kp1490 : Keep h0 h1437 [mp, ky] := Kp1436.wr W1437 (Or.inl (List.mem_of_getElem? (i := 0) rfl))
 refine Rch.st (fun _ k => st1437 _ k) ?_
 show Rch p e below T1437 (mkF m 312 #[vR mp, vR ky, vR fo, vI r_1149, vR t_1187, vN, vI 16, vI (((16 : Int32) - (1 : Int32)) &&& r_1149), vI 0, vN, vN, vI 0, vR nv_1232] []) _
 refine w_aloadN (pc' := 313) X1437 hx hby d52_312 rfl rfl rfl ?_
 refine w_dup (pc' := 314) X1437 hx hby d52_313 rfl rfl ?_
 obtain ⟨T1491, X1491, e1491, st1491⟩ := getF X1437 hx hZ1232 hown1232 (host := "") (Or.inl (wi hw 141 rfl)) Via.refl e1437 f1481 (g := (mkF m 314 #[vR mp, vR ky, vR fo, vI r_1149, vR t_1187, vN, vI 16, vI (((16 : Int32) - (1 : Int32)) &&& r_1149), vI 0, vN, vN, vI 0, vR nv_1232] [(.ref mp), (.ref mp)])) rfl rfl (hb hby d52_314)
 refine Rch.st (fun _ k => st1491 _ k) ?_
 show Rch p e below T1491 (mkF m 317 #[vR mp, vR ky, vR fo, vI r_1149, vR t_1187, vN, vI 16, vI (((16 : Int32) - (1 : Int32)) &&& r_1149), vI 0, vN, vN, vI 0, vR nv_1232] [(.int 0), (.ref mp)]) _
 refine w_iconst (pc' := 318) (v := 1) X1491 hx hby d52_317 rfl rfl ?_
 refine w_iadd (pc' := 319) X1491 hx hby d52_318 rfl ?_
 obtain ⟨T1492, h1492, X1492, e1492, W1492, st1492⟩ := putF X1491 hx hZ1232 hown1232 (host := "") (Or.inl (wi hw 141 rfl)) Via.refl e1491 f1481 f1453 (Or.inl (wi hw 142 rfl)) (wi hw 38 rfl) (ty := .int) (by decide) rfl rfl (g := (mkF m 319 #[vR mp, vR ky, vR fo, vI r_1149, vR t_1187, vN, vI 16, vI (((16 : Int32) - (1 : Int32)) &&& r_1149), vI 0, vN, vN, vI 0, vR nv_1232] [(.int ((0 : Int32) + (1 : Int32))), (.ref mp)])) rfl rfl (hb hby d52_319)
 have N1493 := Fr.snoc X1492 N1438 gm
 have f1508 := f1453.wr W1492
 have f1510 := f1455.other W1492 (Or.inl (Ne.symm ne1171))
 have f1511 := f1456.other W1492 (Or.inl (Ne.symm ne1171))
 have f1512 := f1457.other W1492 (Or.inl (Ne.symm ne1171))
 have f1513 := f1458.other W1492 (Or.inl (Ne.symm ne1171))
 have f1514 := f1459.wr W1492
 have f1515 := f1460.other W1492 (Or.inl (Ne.symm ne1240))
 have f1516 := f1461.other W1492 (Or.inl (Ne.symm ne1240))
 have f1517 := f1462.other W1492 (Or.inl (Ne.symm ne1240))
 have f1518 := f1463.wr W1492
 have f1519 := f1464.other W1492 (Or.inl (Ne.symm ne1252))
 have f1520 := f1465.other W1492 (Or.inl (Ne.symm ne1252))
 have f1521 := f1466.other W1492 (Or.inl (Ne.symm ne1252))
 have f1522 := f1467.other W1492 (Or.inl (Ne.symm ne1252))
 have f1523 := f1468.other W1492 (Or.inl (Ne.symm ne1252))
 have f1524 := f1469.other W1492 (Or.inl (Ne.symm ne1252))
 have f1525 := f1470.other W1492 (Or.inl (Ne.symm ne1252))
 have f1526 := f1471.wr W1492
 have f1527 := f1472.other W1492 (Or.inl (Ne.symm ne1264))
 have f1528 := f1473.other W1492 (Or.inl (Ne.symm ne1264))
 have f1529 := f1474.other W1492 (Ne.symm ne1276)
 have f1530 := f1475.wr W1492
 have f1531 := f1476.other W1492 (Or.inl ne1372)
 have f1532 := f1477.other W1492 (Or.inl ne1372)
 have f1533 := f1478.other W1492 ne1375
 have f1540 := f1485.other W1492 (Or.inr (slot_ne (t := (.object "java/util/LinkedHashMap$Entry")) (t' := .int) (Or.inl (wi hw 322 rfl)) (Or.inl (wi hw 142 rfl)) (by decide) (by decide) (by decide)))
 have Z1543 := Nat.le_trans Z1488 (Keep.of_wr W1492).1
 have hk1544 := Nat.le_trans hk1489 (Keep.of_wr W1492).1
 have Kp1545 : Keep h0 h1492 [mp, ky] := Kp1490.wr W1492 (Or.inl (List.mem_of_getElem? (i := 0) rfl))
 refine Rch.st (fun _ k => st1492 _ k) ?_
 show Rch p e below T1492 (mkF m 322 #[vR mp, vR ky, vR fo, vI r_1149, vR t_1187, vN, vI 16, vI (((16 : Int32) - (1 : Int32)) &&& r_1149), vI 0, vN, vN, vI 0, vR nv_1232] []) _
 refine w_aloadN (pc' := 323) X1492 hx hby d52_322 rfl rfl rfl ?_
 refine w_iconst (pc' := 324) (v := 1) X1492 hx hby d52_323 rfl rfl ?_
 obtain ⟨cq1546, kq1546, q1546a, q1546b, q1546c⟩ := isOf hZ1232 e1492 f1508
 obtain ⟨_, _, ⟨T1546, L1546, k1546, n1546⟩, -, X1546, ⟨Lc1546, hQ1546, l1546, y1546, z1546⟩, st1546⟩ := X1492.virtualBack hx (y := y_56) (z := y_53) hown1232 (mvT hZ1232 (wi hw 323 rfl)) (mvT hZ1232 (wi hw 324 rfl)) (own_nf (args := #[]) (mvT hZ1232 (wi hw 114 rfl)) rfl) (mvT hZ1232 (wi hw 326 rfl)) (mvT hZ1232 (wi hw 327 rfl)) (by decide) (backOf (W := 0) (rm_ai l Z a0 hw [] mp en_1314 h1492 n0 Z1543 f1508 f1540) hZ1232 (wi hw 328 rfl) (wi hw 39 rfl) (by decide) (by decide)) q1546a q1546c (g := (mkF m 324 #[vR mp, vR ky, vR fo, vI r_1149, vR t_1187, vN, vI 16, vI (((16 : Int32) - (1 : Int32)) &&& r_1149), vI 0, vN, vN, vI 0, vR nv_1232] [(.int 1), (.ref mp)])) rfl (by rw [hml]; rfl) (Steps.refl _) (argsL := [(.int 1)]) (rest := []) (lenOf pd__Z_V rfl) rfl (by show 2 * 0 + _ ≤ _; exact Nat.le_of_eq rfl) (hb hby d52_324) (fun _ _ => ⟨rfl, e1492, (by decide : 10 + 0 ≤ _), (by decide : 88 + 0 ≤ _)⟩)
 dsimp only [Pt.U, Pt.locs, Pt.cells, Pt.slots] at X1546 l1546 y1546 z1546 st1546 hQ1546
 subst l1546 y1546 z1546
 obtain ⟨rfl, NQ1546, K1546⟩ := hQ1546
 have N1547 := Fr.app N1493 NQ1546
 refine Rch.st (fun _ k => st1546.trans k) ?_
 show Rch p e below T1546 (mkF m 327 #[vR mp, vR ky, vR fo, vI r_1149, vR t_1187, vN, vI 16, vI (((16 : Int32) - (1 : Int32)) &&& r_1149), vI 0, vN, vN, vI 0, vR nv_1232] []) _
 refine w_aload (pc' := 329) X1546 hx hby d52_327 rfl rfl rfl ?_
 exact Rch.retVW X1546 hx hS1232 (by rw [K1546]; exact hk1544) Bd.returns rfl (Or.inr (Or.inr (Or.inr (Or.inr ⟨rfl, rfl, rfl⟩)))) (hb hby d52_329) (by rw [K1546]; exact ⟨nv_1232, m2_1232, ns_1232, ts_1232, kts_1232, tv_1232, sa_1232, sbb_1232, ksb_1232, x2_1149, y2_1149, rfl, N1547, Kp1545, (Nat.le_trans Kp1228.1 pq1232_0), (Nat.le_trans Kp1228.1 pq1232_1), (Nat.le_trans Kp1228.1 pq1232_2), (Nat.le_trans Kp1228.1 pq1232_3), f1514, f1515, f1516, f1517, f1518, f1519, f1520, f1521, f1522, f1523, f1524, f1525, f1526, f1527, f1528, f1529, f1530, f1531, f1532, f1533, f1510, f1511, f1512, f1513, own_ib_mono (own_ib (s := s.setVm T1232.vm) IQ1232 X1546.warmed) (by decide), own_lit (s := s) (vm := T1232.vm) LQ1232_0 X1546.warmed.wide⟩) (by decide) (by decide)

abbrev c53 : ByteArray := prog_50_method_12_code
theorem d53_0 : decode c53 0 = .ok (.aload_n 0, 1) := by decide +kernel
theorem d53_1 : decode c53 1 = .ok (.getfield 15, 3) := by decide +kernel
theorem d53_4 : decode c53 4 = .ok (.aload_n 1, 1) := by decide +kernel
theorem d53_5 : decode c53 5 = .ok (.invokevirtual 66, 3) := by decide +kernel
theorem d53_8 : decode c53 8 = .ok (.aload_n 0, 1) := by decide +kernel
theorem d53_9 : decode c53 9 = .ok (.aload_n 1, 1) := by decide +kernel
theorem d53_10 : decode c53 10 = .ok (.invokedynamic 71, 5) := by decide +kernel
theorem d53_15 : decode c53 15 = .ok (.invokeinterface 75 3, 5) := by decide +kernel
theorem d53_20 : decode c53 20 = .ok (.checkcast 2, 3) := by decide +kernel
theorem d53_23 : decode c53 23 = .ok (.areturn, 1) := by decide +kernel
theorem ef_rm_af_n1 (m : MethodId) (G1 : Int32) (G6 : Addr) (th : Addr) (nm : Addr) (fd : Addr) (fs : Addr) (fb : Addr) (kfb : ClassId) (fv : List Value) (fdd : Value) (nb : Addr) (knb : ClassId) (nv_ : List Value) (ndd : Value) (ky : Addr) (kb : Addr) (kkb : ClassId) (b0 : Int32) (hv : Int32) (hz : Int32) (mp : Addr)  : entryFrame m #[(.ref th), (.ref fd)] 2 = mkF m 0 #[vR th, vR fd] [] := by  first | (simp [entryFrame, mkF, argsToLocals, Value.category, maxLocals]; done) | rfl
def Q_rm_af_n1 (Z : State) (G1 : Int32) (G6 : Addr) (th : Addr) (nm : Addr) (fd : Addr) (fs : Addr) (fb : Addr) (kfb : ClassId) (fv : List Value) (fdd : Value) (nb : Addr) (knb : ClassId) (nv_ : List Value) (ndd : Value) (ky : Addr) (kb : Addr) (kkb : ClassId) (b0 : Int32) (hv : Int32) (hz : Int32) (mp : Addr) (h0 : Heap) (n0 : Nat) (v : Option Value) (h : Heap) (vm : Vm) (L : List Loc) : Prop := ∃ (nv : Addr) (m2 : Addr) (ns : Addr) (ts : Addr) (kts : ClassId) (tv : List Value) (sa : Addr) (sbb : Addr) (ksb : ClassId) (x2 : Int32) (y2 : Int32), (v = some (.ref nv)) ∧ (Fr n0 L) ∧ (Keep h0 h [mp, ky]) ∧ (h0.size ≤ nv) ∧ (h0.size ≤ m2) ∧ (h0.size ≤ ns) ∧ (h0.size ≤ ts) ∧ (Exa Z h nv "com/example/mandoline/mandoline/Variable") ∧ (Fld Z h nv "com/example/mandoline/mandoline/Variable" "fields" "Ljava/util/Map;" (.ref m2)) ∧ (Fld Z h nv "com/example/mandoline/mandoline/Variable" "name" "Ljava/lang/String;" (.ref ns)) ∧ (Fld Z h nv "com/example/mandoline/mandoline/Variable" "containing" "Lcom/example/mandoline/mandoline/Variable;" (.ref th)) ∧ (Exa Z h m2 "java/util/LinkedHashMap") ∧ (Fld Z h m2 "java/util/HashMap" "table" "[Ljava/util/HashMap$Node;" .null) ∧ (Fld Z h m2 "java/util/HashMap" "size" "I" (.int (0 : Int32))) ∧ (Fld Z h m2 "java/util/HashMap" "modCount" "I" (.int (0 : Int32))) ∧ (Fld Z h m2 "java/util/HashMap" "threshold" "I" (.int (0 : Int32))) ∧ (Fld Z h m2 "java/util/LinkedHashMap" "putMode" "I" (.int (0 : Int32))) ∧ (Fld Z h m2 "java/util/LinkedHashMap" "head" "Ljava/util/LinkedHashMap$Entry;" .null) ∧ (Fld Z h m2 "java/util/LinkedHashMap" "tail" "Ljava/util/LinkedHashMap$Entry;" .null) ∧ (Exa Z h ns "java/lang/String") ∧ (Fld Z h ns "java/lang/String" "coder" "B" (.int (0 : Int32))) ∧ (Fld Z h ns "java/lang/String" "value" "[B" (.ref ts)) ∧ (Arv Z h ts kts .byte (3 : Int32) tv (.int (0 : Int32))) ∧ (Exa Z h sa "java/lang/String") ∧ (Fld Z h sa "java/lang/String" "coder" "B" (.int (0 : Int32))) ∧ (Fld Z h sa "java/lang/String" "value" "[B" (.ref sbb)) ∧ (Arv Z h sbb ksb .byte (1 : Int32) [(.int (46 : Int32))] (.int (0 : Int32))) ∧ (Fld Z h ky "java/lang/String" "coder" "B" (.int (0 : Int32))) ∧ (Fld Z h ky "java/lang/String" "value" "[B" (.ref kb)) ∧ (Fld Z h ky "java/lang/String" "hash" "I" (.int x2)) ∧ (Fld Z h ky "java/lang/String" "hashIsZero" "Z" (.int y2)) ∧ (IB Z vm (["."] : List String)) ∧ (Lit (Z.setVm vm) "com/example/mandoline/mandoline/Variable" 131 sa)
theorem pd__Ljava_lang_Object_Ljava_util_function_Function__Ljava_lang_Object_ : parseMethodDescriptor "(Ljava/lang/Object;Ljava/util/function/Function;)Ljava/lang/Object;" = some ⟨[(.object "java/lang/Object"), (.object "java/util/function/Function")], (some (.object "java/lang/Object"))⟩ := by decide +kernel
set_option maxRecDepth 65536 in
set_option maxHeartbeats 40000000 in
theorem rm_af_n1 (l : Launch) (Z : State) (a0 : Array Value) (hw : ∀ d ∈ tables_1, d.before a0 Z = true) (ws : List Jvm.Cond) (G1 : Int32) (G6 : Addr) (th : Addr) (nm : Addr) (fd : Addr) (fs : Addr) (fb : Addr) (kfb : ClassId) (fv : List Value) (fdd : Value) (nb : Addr) (knb : ClassId) (nv_ : List Value) (ndd : Value) (ky : Addr) (kb : Addr) (kkb : ClassId) (b0 : Int32) (hv : Int32) (hz : Int32) (mp : Addr) (h0 : Heap) (n0 : Nat) (Z0 : n0 ≤ h0.size) (O2 : Sta Z Z.heap "java/lang/String" "COMPACT_STRINGS" "Z" (.int G1)) (P5 : ¬ G1 = 0) (O6 : Sta Z Z.heap "java/util/ImmutableCollections" "EMPTY_LIST" "Ljava/util/ImmutableCollections$ListN;" (.ref G6)) (f3 : Exa Z h0 th "com/example/mandoline/mandoline/Variable") (f4 : Fld Z h0 th "com/example/mandoline/mandoline/Variable" "name" "Ljava/lang/String;" (.ref nm)) (f5 : Exa Z h0 fd "com/example/mandoline/mandoline/Place$Field") (f6 : Fld Z h0 fd "com/example/mandoline/mandoline/Place$Field" "name" "Ljava/lang/String;" (.ref fs)) (f7 : Exa Z h0 fs "java/lang/String") (f8 : Fld Z h0 fs "java/lang/String" "coder" "B" (.int (0 : Int32))) (f9 : Fld Z h0 fs "java/lang/String" "value" "[B" (.ref fb)) (f10 : Arv Z h0 fb kfb .byte (1 : Int32) fv fdd) (f11 : Exa Z h0 nm "java/lang/String") (f12 : Fld Z h0 nm "java/lang/String" "coder" "B" (.int (0 : Int32))) (f13 : Fld Z h0 nm "java/lang/String" "value" "[B" (.ref nb)) (f14 : Arv Z h0 nb knb .byte (1 : Int32) nv_ ndd) (H131 : Jvm.Lit.constHeld Z "com/example/mandoline/mandoline/Variable" 131) (hcw : Jvm.Lit.compactW.before a0 Z = true) (f17 : Fld Z h0 th "com/example/mandoline/mandoline/Variable" "fields" "Ljava/util/Map;" (.ref mp)) (f18 : Fld Z h0 fd "com/example/mandoline/mandoline/Place$Field" "key" "Ljava/lang/String;" (.ref ky)) (f19 : Exa Z h0 ky "java/lang/String") (f20 : Fld Z h0 ky "java/lang/String" "coder" "B" (.int (0 : Int32))) (f21 : Fld Z h0 ky "java/lang/String" "value" "[B" (.ref kb)) (f22 : Fld Z h0 ky "java/lang/String" "hash" "I" (.int hv)) (f23 : Fld Z h0 ky "java/lang/String" "hashIsZero" "Z" (.int hz)) (f24 : Arv Z h0 kb kkb .byte (1 : Int32) [(.int b0)] (.int (0 : Int32))) (f25 : Exa Z h0 mp "java/util/LinkedHashMap") (f26 : Fld Z h0 mp "java/util/HashMap" "table" "[Ljava/util/HashMap$Node;" .null) (f27 : Fld Z h0 mp "java/util/HashMap" "size" "I" (.int (0 : Int32))) (f28 : Fld Z h0 mp "java/util/HashMap" "modCount" "I" (.int (0 : Int32))) (f29 : Fld Z h0 mp "java/util/HashMap" "threshold" "I" (.int (0 : Int32))) (f30 : Fld Z h0 mp "java/util/LinkedHashMap" "putMode" "I" (.int (0 : Int32))) (f31 : Fld Z h0 mp "java/util/LinkedHashMap" "head" "Ljava/util/LinkedHashMap$Entry;" .null) (f32 : Fld Z h0 mp "java/util/LinkedHashMap" "tail" "Ljava/util/LinkedHashMap$Entry;" .null) (gm : n0 ≤ mp) (gk : n0 ≤ ky) (qs1 : fs ≠ ky) (qs2 : nm ≠ ky) (Old0 : OldL Z n0 h0) :
    MetW l Z y_57 c53 2 (some (.object "com/example/mandoline/mandoline/Variable")) ws (Rm 9 11 90 3076) #[(.ref th), (.ref fd)] h0 (fun vm => IB Z vm ([] : List String)) (Q_rm_af_n1 Z G1 G6 th nm fd fs fb kfb fv fdd nb knb nv_ ndd ky kb kkb b0 hv hz mp h0 n0) := by
 refine MetFree.of_bodySF (plainFor_of_name pn_com_example_mandoline_mandoline_Variable) hisR ?_
 intro p e s m args below meth c s₁ Bd hml0 hP hK
 obtain ⟨rfl, hZ, hh, hI⟩ := hP
 have hx := Bd.exec
 have hby := Bd.bytes
 have hml : c.maxLocals = 2 := hml0
 have hown : s.vm.findClass "com/example/mandoline/mandoline/Variable" = some m.cls := findClass_of_methodNamed Bd.named
 have X0 : Stand p l e (Rm 9 11 90 3076) (s.setVm s.vm) m #[(.ref th), (.ref fd)] below meth c s₁ [] 0 0 := Stand.of_body Bd
 have e0 : s₁.heap = h0 := by rw [← hh, Bd.state]; rfl
 have N0 := Fr.nil n0
 have K00 : Keep h0 h0 [mp, ky] := Keep.refl _ _
 have hS0 : s.Since s.vm s.heap.size := (State.WarmedH.refl s).since _
 have hk0 : s.heap.size ≤ h0.size := by rw [hh]; exact Nat.le_refl _
 have hkeep : ∀ (b : Addr) (cl : Cell), Z.heap[b]? = some cl → s.heap[b]? = some cl := by rw [hh]; exact Old0.2.2
 show Rch p e below s₁ (entryFrame m #[(.ref th), (.ref fd)] 2) (FinW s (Q_rm_af_n1 Z G1 G6 th nm fd fs fb kfb fv fdd nb knb nv_ ndd ky kb kkb b0 hv hz mp h0 n0) 11 90)
 refine Rch.cast (ef_rm_af_n1 m G1 G6 th nm fd fs fb kfb fv fdd nb knb nv_ ndd ky kb kkb b0 hv hz mp) ?_
 show Rch p e below s₁ (mkF m 0 #[vR th, vR fd] []) _
 refine w_aloadN (pc' := 1) X0 hx hby d53_0 rfl rfl rfl ?_
 obtain ⟨T1548, X1548, e1548, st1548⟩ := getF X0 hx hZ hown (host := "") (Or.inl (wi hw 63 rfl)) Via.refl e0 f17 (g := (mkF m 1 #[vR th, vR fd] [(.ref th)])) rfl rfl (hb hby d53_1)
 refine Rch.st (fun _ k => st1548 _ k) ?_
 show Rch p e below T1548 (mkF m 4 #[vR th, vR fd] [(.ref mp)]) _
 refine w_aloadN (pc' := 5) X1548 hx hby d53_4 rfl rfl rfl ?_
 obtain ⟨cq1549, kq1549, q1549a, q1549b, q1549c⟩ := isOf hZ e1548 f5
 obtain ⟨_, _, ⟨T1549, L1549, k1549, n1549⟩, -, X1549, ⟨Lc1549, hQ1549, l1549, y1549, z1549⟩, st1549⟩ := X1548.virtualBack hx (y := y_40) (z := y_40) hown (mvT hZ (wi hw 102 rfl)) (mvT hZ (wi hw 103 rfl)) (notFace_of_selects (args := #[]) (mvT hZ (wi hw 105 rfl))) (mvT hZ (wi hw 105 rfl)) (mvT hZ (wi hw 104 rfl)) (by decide) (backOf (W := 1) (rm_ky l Z a0 hw [] fd ky h0 n0 Z0 f18) hZ (wi hw 106 rfl) (wi hw 83 rfl) (by decide) (by decide)) q1549a q1549c (g := (mkF m 5 #[vR th, vR fd] [(.ref fd), (.ref mp)])) rfl (by rw [hml]; rfl) (Steps.refl _) (argsL := []) (rest := [(.ref mp)]) (lenOf pd___Ljava_lang_String_ rfl) rfl (by show 2 * 0 + _ ≤ _; exact Nat.le_of_eq rfl) (hb hby d53_5) (fun _ _ => ⟨rfl, e1548, (by decide : 0 + 0 ≤ _), (by decide : 0 + 0 ≤ _)⟩)
 dsimp only [Pt.U, Pt.locs, Pt.cells, Pt.slots] at X1549 l1549 y1549 z1549 st1549 hQ1549
 subst l1549 y1549 z1549
 obtain ⟨rfl, NQ1549, K1549⟩ := hQ1549
 have N1550 := Fr.app N0 NQ1549
 refine Rch.st (fun _ k => st1549.trans k) ?_
 show Rch p e below T1549 (mkF m 8 #[vR th, vR fd] [(.ref ky), (.ref mp)]) _
 refine w_aloadN (pc' := 9) X1549 hx hby d53_8 rfl rfl rfl ?_
 refine w_aloadN (pc' := 10) X1549 hx hby d53_9 rfl rfl rfl ?_
 obtain ⟨T1551, h1551, cK1551, MD1551, X1551, e1551, E1551, F1551, st1551⟩ := own_mkLam (σ := own_sg) X1549 hx hZ Bd.named (wi hw 107 rfl) rfl own_hc0 (wi hw 110 rfl) K1549 (g := (mkF m 10 #[vR th, vR fd] [(.ref fd), (.ref th), (.ref ky), (.ref mp)])) rfl rfl (by rw [hml]; rfl) (hb hby d53_10) (va := (.ref th)) (vb := (.ref fd)) rfl ⟨rfl, rfl⟩ ⟨rfl, rfl⟩ (by show 2 * 0 + 4 + 3072 ≤ _; decide) (by decide) (by decide)
 obtain ⟨a1551, g1551⟩ : ∃ z, z = h0.size := ⟨_, rfl⟩
 rw [← g1551] at F1551 st1551
 have ne1556 : ky ≠ a1551 := by rw [g1551]; exact Nat.ne_of_lt f19.lt
 have ne1557 : mp ≠ a1551 := by rw [g1551]; exact Nat.ne_of_lt f25.lt
 have hk1563 := Nat.le_trans hk0 E1551.1
 have f1564 := f3.ext E1551
 have f1565 := f4.ext E1551
 have f1566 := f5.ext E1551
 have f1567 := f6.ext E1551
 have f1568 := f7.ext E1551
 have f1569 := f8.ext E1551
 have f1570 := f9.ext E1551
 have f1571 := f10.ext E1551
 have f1572 := f11.ext E1551
 have f1573 := f12.ext E1551
 have f1574 := f13.ext E1551
 have f1575 := f14.ext E1551
 have f1578 := f19.ext E1551
 have f1579 := f20.ext E1551
 have f1580 := f21.ext E1551
 have f1581 := f22.ext E1551
 have f1582 := f23.ext E1551
 have f1583 := f24.ext E1551
 have f1584 := f25.ext E1551
 have f1585 := f26.ext E1551
 have f1586 := f27.ext E1551
 have f1587 := f28.ext E1551
 have f1588 := f29.ext E1551
 have f1589 := f30.ext E1551
 have f1590 := f31.ext E1551
 have f1591 := f32.ext E1551
 have Old1592 := Old0.ext E1551
 have Z1593 := Nat.le_trans Z0 E1551.1
 have Kp1594 : Keep h0 h1551 [mp, ky] := K00.ext E1551
 refine Rch.st (fun _ k => st1551 _ k) ?_
 show Rch p e below T1551 (mkF m 15 #[vR th, vR fd] [(.ref a1551), (.ref ky), (.ref mp)]) _
 obtain ⟨cq1595, kq1595, q1595a, q1595b, q1595c⟩ := isOf hZ e1551 f1584
 obtain ⟨_, _, ⟨T1595, L1595, k1595, n1595⟩, -, X1595, hSx1595, hgx1595, ⟨Lc1595, hQ1595, l1595, y1595, z1595⟩, st1595⟩ := X1551.interfaceBackS hx (xi := y_58) (y := y_54) hown (mvT hZ (wi hw 111 rfl)) (mvT hZ (wi hw 112 rfl)) (mvT hZ (wi hw 113 rfl)) (mvT hZ (wi hw 114 rfl)) (mvT hZ (wi hw 115 rfl)) (mvT hZ (wi hw 116 rfl)) (mvT hZ (wi hw 117 rfl)) (mvT hZ (wi hw 118 rfl)) (by decide) (backOfV (PV := fun vm => IB Z vm ([] : List String)) (W := 0) (rm_ci_n1 l Z a0 hw [] G1 G6 th nm fd fs fb kfb fv fdd nb knb nv_ ndd ky kb kkb b0 hv hz mp a1551 cK1551 h1551 n0 Z1593 (O2) (P5) (O6) f1564 f1565 f1566 f1567 f1568 f1569 f1570 f1571 f1572 f1573 f1574 f1575 (H131) (hcw) f1578 f1579 f1580 f1581 f1582 f1583 f1584 f1585 f1586 f1587 f1588 f1589 f1590 f1591 F1551 (MD1551) (gm) (gk) ((Ne.symm ne1556)) ((Ne.symm ne1557)) (qs1) (qs2) Old1592) hZ (fun vm hW => own_ib (s := s.setVm s.vm) hI hW) (wi hw 119 rfl) (wi hw 47 rfl) (by decide) (by decide)) q1595a q1595b q1595c (g := (mkF m 15 #[vR th, vR fd] [(.ref a1551), (.ref ky), (.ref mp)])) rfl (by rw [hml]; rfl) (Steps.refl _) (argsL := [(.ref ky), (.ref a1551)]) (rest := []) (lenOf pd__Ljava_lang_Object_Ljava_util_function_Function__Ljava_lang_Object_ rfl) rfl (by show 2 * 0 + _ ≤ _; exact Nat.le_of_eq rfl) (hb hby d53_15) (fun _ _ => ⟨rfl, e1551, (by decide : 1 + 10 ≤ _), (by decide : 2 + 88 ≤ _)⟩)
 dsimp only [Pt.U, Pt.locs, Pt.cells, Pt.slots] at X1595 l1595 y1595 z1595 st1595 hQ1595 hSx1595 hgx1595
 subst l1595 y1595 z1595
 have hS1595 := foldS hS0 (by rw [e1551]; exact hk1563) hSx1595 hgx1595
 have hk1595 : T1595.heap.size ≤ T1595.heap.size := Nat.le_refl _
 have hZ1595 : Z.Warmed39 (s.setVm T1595.vm).vm := State.Warmed39.trans (t := s.setVm s.vm) hZ hSx1595.1
 have hown1595 : (s.setVm T1595.vm).vm.findClass "com/example/mandoline/mandoline/Variable" = some m.cls := by rw [show (s.setVm T1595.vm).vm = T1595.vm from rfl, hSx1595.1.alike.findClass]; exact hown
 have X1595w : Stand p l e (Rm 9 11 90 3076) (s.setVm T1595.vm) m _ below meth c T1595 _ _ _ := X1595
 obtain ⟨nv_1595, m2_1595, ns_1595, ts_1595, kts_1595, tv_1595, sa_1595, sbb_1595, ksb_1595, x2_1595, y2_1595, rfl, NQ1595, K1595, pq1595_0, pq1595_1, pq1595_2, pq1595_3, fq1595_0, fq1595_1, fq1595_2, fq1595_3, fq1595_4, fq1595_5, fq1595_6, fq1595_7, fq1595_8, fq1595_9, fq1595_10, fq1595_11, fq1595_12, fq1595_13, fq1595_14, fq1595_15, fq1595_16, fq1595_17, fq1595_18, fq1595_19, fq1595_20, fq1595_21, fq1595_22, fq1595_23, IQ1595, LQ1595_0⟩ := hQ1595
 have N1596 := Fr.app N1550 NQ1595
 have Kp1672 : Keep h0 T1595.heap [mp, ky] := Kp1594.trans K1595 (allS (Or.inl (List.mem_of_getElem? (i := 0) rfl)) (allS (Or.inl (List.mem_of_getElem? (i := 1) rfl)) all0))
 refine Rch.st (fun _ k => st1595.trans k) ?_
 show Rch p e below T1595 (mkF m 20 #[vR th, vR fd] [(.ref nv_1595)]) _
 obtain ⟨T1674, X1674, e1674, st1674⟩ := castY X1595w hx hZ1595 hown1595 (wi hw 162 rfl) (rfl : T1595.heap = T1595.heap) (Ins.self fq1595_0) (g := (mkF m 20 #[vR th, vR fd] [(.ref nv_1595)])) rfl rfl (hb hby d53_20)
 refine Rch.st (fun _ k => st1674 _ k) ?_
 show Rch p e below T1674 (mkF m 23 #[vR th, vR fd] [(.ref nv_1595)]) _
 exact Rch.retVW X1674 hx hS1595 (by rw [e1674]; exact hk1595) Bd.returns rfl (Or.inr (Or.inr (Or.inr (Or.inr ⟨rfl, rfl, rfl⟩)))) (hb hby d53_23) (by rw [e1674]; exact ⟨nv_1595, m2_1595, ns_1595, ts_1595, kts_1595, tv_1595, sa_1595, sbb_1595, ksb_1595, x2_1595, y2_1595, rfl, N1596, Kp1672, (Nat.le_trans Kp1594.1 pq1595_0), (Nat.le_trans Kp1594.1 pq1595_1), (Nat.le_trans Kp1594.1 pq1595_2), (Nat.le_trans Kp1594.1 pq1595_3), fq1595_0, fq1595_1, fq1595_2, fq1595_3, fq1595_4, fq1595_5, fq1595_6, fq1595_7, fq1595_8, fq1595_9, fq1595_10, fq1595_11, fq1595_12, fq1595_13, fq1595_14, fq1595_15, fq1595_16, fq1595_17, fq1595_18, fq1595_19, fq1595_20, fq1595_21, fq1595_22, fq1595_23, own_ib_mono (own_ib (s := s.setVm T1595.vm) IQ1595 X1674.warmed) (by decide), own_lit (s := s) (vm := T1595.vm) LQ1595_0 X1674.warmed.wide⟩) (by decide) (by decide)

theorem ef_rm_lam_n2 (m : MethodId) (G1 : Int32) (G6 : Addr) (th : Addr) (nm : Addr) (fd : Addr) (fs : Addr) (fb : Addr) (kfb : ClassId) (fv : List Value) (fdd : Value) (nb : Addr) (knb : ClassId) (nv_ : List Value) (ndd : Value) (sa : Addr) (sbb : Addr) (ksb : ClassId) (ky : Addr)  : entryFrame m #[(.ref th), (.ref fd), (.ref ky)] 3 = mkF m 0 #[vR th, vR fd, vR ky] [] := by  first | (simp [entryFrame, mkF, argsToLocals, Value.category, maxLocals]; done) | rfl
def Q_rm_lam_n2 (Z : State) (G1 : Int32) (G6 : Addr) (th : Addr) (nm : Addr) (fd : Addr) (fs : Addr) (fb : Addr) (kfb : ClassId) (fv : List Value) (fdd : Value) (nb : Addr) (knb : ClassId) (nv_ : List Value) (ndd : Value) (sa : Addr) (sbb : Addr) (ksb : ClassId) (ky : Addr) (h0 : Heap) (n0 : Nat) (v : Option Value) (h : Heap) (vm : Vm) (L : List Loc) : Prop := ∃ (nv : Addr) (m2 : Addr) (ns : Addr) (ts : Addr) (kts : ClassId) (tv : List Value), (v = some (.ref nv)) ∧ (Fr n0 L) ∧ (Keep h0 h []) ∧ (h0.size ≤ nv) ∧ (h0.size ≤ m2) ∧ (h0.size ≤ ns) ∧ (h0.size ≤ ts) ∧ (Exa Z h nv "com/example/mandoline/mandoline/Variable") ∧ (Fld Z h nv "com/example/mandoline/mandoline/Variable" "fields" "Ljava/util/Map;" (.ref m2)) ∧ (Fld Z h nv "com/example/mandoline/mandoline/Variable" "name" "Ljava/lang/String;" (.ref ns)) ∧ (Fld Z h nv "com/example/mandoline/mandoline/Variable" "containing" "Lcom/example/mandoline/mandoline/Variable;" (.ref th)) ∧ (Exa Z h m2 "java/util/LinkedHashMap") ∧ (Fld Z h m2 "java/util/HashMap" "table" "[Ljava/util/HashMap$Node;" .null) ∧ (Fld Z h m2 "java/util/HashMap" "size" "I" (.int (0 : Int32))) ∧ (Fld Z h m2 "java/util/HashMap" "modCount" "I" (.int (0 : Int32))) ∧ (Fld Z h m2 "java/util/HashMap" "threshold" "I" (.int (0 : Int32))) ∧ (Fld Z h m2 "java/util/LinkedHashMap" "putMode" "I" (.int (0 : Int32))) ∧ (Fld Z h m2 "java/util/LinkedHashMap" "head" "Ljava/util/LinkedHashMap$Entry;" .null) ∧ (Fld Z h m2 "java/util/LinkedHashMap" "tail" "Ljava/util/LinkedHashMap$Entry;" .null) ∧ (Exa Z h ns "java/lang/String") ∧ (Fld Z h ns "java/lang/String" "coder" "B" (.int (0 : Int32))) ∧ (Fld Z h ns "java/lang/String" "value" "[B" (.ref ts)) ∧ (Arv Z h ts kts .byte (5 : Int32) tv (.int (0 : Int32))) ∧ (IB Z vm (["."] : List String))
set_option maxRecDepth 65536 in
set_option maxHeartbeats 40000000 in
theorem rm_lam_n2 (l : Launch) (Z : State) (a0 : Array Value) (hw : ∀ d ∈ tables_1, d.before a0 Z = true) (ws : List Jvm.Cond) (G1 : Int32) (G6 : Addr) (th : Addr) (nm : Addr) (fd : Addr) (fs : Addr) (fb : Addr) (kfb : ClassId) (fv : List Value) (fdd : Value) (nb : Addr) (knb : ClassId) (nv_ : List Value) (ndd : Value) (sa : Addr) (sbb : Addr) (ksb : ClassId) (ky : Addr) (h0 : Heap) (n0 : Nat) (Z0 : n0 ≤ h0.size) (O2 : Sta Z Z.heap "java/lang/String" "COMPACT_STRINGS" "Z" (.int G1)) (P5 : ¬ G1 = 0) (O6 : Sta Z Z.heap "java/util/ImmutableCollections" "EMPTY_LIST" "Ljava/util/ImmutableCollections$ListN;" (.ref G6)) (f3 : Exa Z h0 th "com/example/mandoline/mandoline/Variable") (f4 : Fld Z h0 th "com/example/mandoline/mandoline/Variable" "name" "Ljava/lang/String;" (.ref nm)) (f5 : Exa Z h0 fd "com/example/mandoline/mandoline/Place$Field") (f6 : Fld Z h0 fd "com/example/mandoline/mandoline/Place$Field" "name" "Ljava/lang/String;" (.ref fs)) (f7 : Exa Z h0 fs "java/lang/String") (f8 : Fld Z h0 fs "java/lang/String" "coder" "B" (.int (0 : Int32))) (f9 : Fld Z h0 fs "java/lang/String" "value" "[B" (.ref fb)) (f10 : Arv Z h0 fb kfb .byte (1 : Int32) fv fdd) (f11 : Exa Z h0 nm "java/lang/String") (f12 : Fld Z h0 nm "java/lang/String" "coder" "B" (.int (0 : Int32))) (f13 : Fld Z h0 nm "java/lang/String" "value" "[B" (.ref nb)) (f14 : Arv Z h0 nb knb .byte (3 : Int32) nv_ ndd) (f15 : Exa Z h0 sa "java/lang/String") (f16 : Fld Z h0 sa "java/lang/String" "coder" "B" (.int (0 : Int32))) (f17 : Fld Z h0 sa "java/lang/String" "value" "[B" (.ref sbb)) (f18 : Arv Z h0 sbb ksb .byte (1 : Int32) [(.int (46 : Int32))] (.int (0 : Int32))) (Old0 : OldL Z n0 h0) :
    MetW l Z y_1 c51 3 (some (.object "com/example/mandoline/mandoline/Variable")) ws (Rm 6 6 58 93) #[(.ref th), (.ref fd), (.ref ky)] h0 (fun vm => IB Z vm (["."] : List String) ∧ Lit (Z.setVm vm) "com/example/mandoline/mandoline/Variable" 131 sa) (Q_rm_lam_n2 Z G1 G6 th nm fd fs fb kfb fv fdd nb knb nv_ ndd sa sbb ksb ky h0 n0) := by
 refine MetFree.of_bodySF (plainFor_of_name pn_com_example_mandoline_mandoline_Variable) hisR ?_
 intro p e s m args below meth c s₁ Bd hml0 hP hK
 obtain ⟨rfl, hZ, hh, hI, hLi0⟩ := hP
 have hx := Bd.exec
 have hby := Bd.bytes
 have hml : c.maxLocals = 3 := hml0
 have hown : s.vm.findClass "com/example/mandoline/mandoline/Variable" = some m.cls := findClass_of_methodNamed Bd.named
 have X0 : Stand p l e (Rm 6 6 58 93) (s.setVm s.vm) m #[(.ref th), (.ref fd), (.ref ky)] below meth c s₁ [] 0 0 := Stand.of_body Bd
 have e0 : s₁.heap = h0 := by rw [← hh, Bd.state]; rfl
 have N0 := Fr.nil n0
 have K00 : Keep h0 h0 [] := Keep.refl _ _
 have hS0 : s.Since s.vm s.heap.size := (State.WarmedH.refl s).since _
 have hk0 : s.heap.size ≤ h0.size := by rw [hh]; exact Nat.le_refl _
 have hkeep : ∀ (b : Addr) (cl : Cell), Z.heap[b]? = some cl → s.heap[b]? = some cl := by rw [hh]; exact Old0.2.2
 show Rch p e below s₁ (entryFrame m #[(.ref th), (.ref fd), (.ref ky)] 3) (FinW s (Q_rm_lam_n2 Z G1 G6 th nm fd fs fb kfb fv fdd nb knb nv_ ndd sa sbb ksb ky h0 n0) 6 58)
 refine Rch.cast (ef_rm_lam_n2 m G1 G6 th nm fd fs fb kfb fv fdd nb knb nv_ ndd sa sbb ksb ky) ?_
 have Z0f := Nat.le_refl h0.size
 have N0f := Fr.nil h0.size
 have OldF := Old0.up Z0
 show Rch p e below s₁ (mkF m 0 #[vR th, vR fd, vR ky] []) _
 obtain ⟨T1675, h1675, X1675, e1675, E1675, A1675, D1675, -, st1675⟩ := newO X0 hx hZ hown (wi hw 162 rfl) (wi hw 2 rfl) (wi hw 3 rfl) e0 (g := (mkF m 0 #[vR th, vR fd, vR ky] [])) rfl (hb hby d51_0) (by decide) (by decide)
 obtain ⟨a1675, g1675⟩ : ∃ z, z = h0.size := ⟨_, rfl⟩
 rw [← g1675] at A1675 D1675 st1675
 have ge1684 : h0.size ≤ a1675 := Nat.le_trans Z0f (Nat.le_of_eq g1675.symm)
 have hk1686 := Nat.le_trans hk0 E1675.1
 have f1687 := f3.ext E1675
 have f1688 := f4.ext E1675
 have f1689 := f5.ext E1675
 have f1690 := f6.ext E1675
 have f1691 := f7.ext E1675
 have f1692 := f8.ext E1675
 have f1693 := f9.ext E1675
 have f1694 := f10.ext E1675
 have f1695 := f11.ext E1675
 have f1696 := f12.ext E1675
 have f1697 := f13.ext E1675
 have f1698 := f14.ext E1675
 have f1699 := f15.ext E1675
 have f1700 := f16.ext E1675
 have f1701 := f17.ext E1675
 have f1702 := f18.ext E1675
 have Old1703 := OldF.ext E1675
 have Z1704 := Nat.le_trans Z0f E1675.1
 have Kp1705 : Keep h0 h1675 [] := K00.ext E1675
 have f1706 : Fld Z h1675 a1675 "com/example/mandoline/mandoline/Variable" "fields" "Ljava/util/Map;" .null := D1675 (Or.inr (wi hw 64 rfl)) (ty := (.object "java/util/Map")) (by decide)
 have f1707 : Fld Z h1675 a1675 "com/example/mandoline/mandoline/Variable" "declarationNodes" "Ljava/util/List;" .null := D1675 (Or.inl (wi hw 72 rfl)) (ty := (.object "java/util/List")) (by decide)
 have f1708 : Fld Z h1675 a1675 "com/example/mandoline/mandoline/Variable" "name" "Ljava/lang/String;" .null := D1675 (Or.inr (wi hw 74 rfl)) (ty := (.object "java/lang/String")) (by decide)
 have f1709 : Fld Z h1675 a1675 "com/example/mandoline/mandoline/Variable" "declaringStatement" "Lcom/example/mandoline/mandoline/ClangNode;" .null := D1675 (Or.inr (wi hw 76 rfl)) (ty := (.object "com/example/mandoline/mandoline/ClangNode")) (by decide)
 have f1710 : Fld Z h1675 a1675 "com/example/mandoline/mandoline/Variable" "function" "Ljava/lang/String;" .null := D1675 (Or.inr (wi hw 78 rfl)) (ty := (.object "java/lang/String")) (by decide)
 have f1711 : Fld Z h1675 a1675 "com/example/mandoline/mandoline/Variable" "containing" "Lcom/example/mandoline/mandoline/Variable;" .null := D1675 (Or.inr (wi hw 80 rfl)) (ty := (.object "com/example/mandoline/mandoline/Variable")) (by decide)
 refine Rch.st (fun _ k => st1675 _ k) ?_
 show Rch p e below T1675 (mkF m 3 #[vR th, vR fd, vR ky] [(.ref a1675)]) _
 refine w_dup (pc' := 4) X1675 hx hby d51_3 rfl rfl ?_
 refine w_aloadN (pc' := 5) X1675 hx hby d51_4 rfl rfl rfl ?_
 obtain ⟨cq1712, kq1712, q1712a, q1712b, q1712c⟩ := isOf hZ e1675 f1689
 obtain ⟨_, _, ⟨T1712, L1712, k1712, n1712⟩, -, X1712, ⟨Lc1712, hQ1712, l1712, y1712, z1712⟩, st1712⟩ := X1675.virtualBack hx (y := y_41) (z := y_41) hown (mvT hZ (wi hw 163 rfl)) (mvT hZ (wi hw 164 rfl)) (notFace_of_selects (args := #[]) (mvT hZ (wi hw 166 rfl))) (mvT hZ (wi hw 166 rfl)) (mvT hZ (wi hw 165 rfl)) (by decide) (backOf (W := 2) (rm_nm l Z a0 hw [] fd fs h1675 h0.size Z1704 f1690) hZ (wi hw 167 rfl) (wi hw 83 rfl) (by decide) (by decide)) q1712a q1712c (g := (mkF m 5 #[vR th, vR fd, vR ky] [(.ref fd), (.ref a1675), (.ref a1675)])) rfl (by rw [hml]; rfl) (Steps.refl _) (argsL := []) (rest := [(.ref a1675), (.ref a1675)]) (lenOf pd___Ljava_lang_String_ rfl) rfl (by show 2 * 0 + _ ≤ _; exact Nat.le_of_eq rfl) (hb hby d51_5) (fun _ _ => ⟨rfl, e1675, (by decide : 1 + 0 ≤ _), (by decide : 6 + 0 ≤ _)⟩)
 dsimp only [Pt.U, Pt.locs, Pt.cells, Pt.slots] at X1712 l1712 y1712 z1712 st1712 hQ1712
 subst l1712 y1712 z1712
 obtain ⟨rfl, NQ1712, K1712⟩ := hQ1712
 have N1713 := Fr.app N0f NQ1712
 refine Rch.st (fun _ k => st1712.trans k) ?_
 show Rch p e below T1712 (mkF m 8 #[vR th, vR fd, vR ky] [(.ref fs), (.ref a1675), (.ref a1675)]) _
 obtain ⟨cq1714, kq1714, q1714a, q1714b, q1714c⟩ := isOf hZ K1712 f1691
 obtain ⟨_, _, ⟨T1714, L1714, k1714, n1714⟩, -, X1714, ⟨Lc1714, hQ1714, l1714, y1714, z1714⟩, st1714⟩ := X1712.virtualBack hx (y := y_42) (z := y_42) hown (mvT hZ (wi hw 168 rfl)) (mvT hZ (wi hw 169 rfl)) (notFace_of_selects (args := #[]) (mvT hZ (wi hw 171 rfl))) (mvT hZ (wi hw 171 rfl)) (mvT hZ (wi hw 170 rfl)) (by decide) (backOf (W := 2) (rm_ie1 l Z a0 hw [] fs fb kfb fv fdd h1675 h0.size Z1704 f1693 f1694) hZ (wi hw 172 rfl) (wi hw 6 rfl) (by decide) (by decide)) q1714a q1714c (g := (mkF m 8 #[vR th, vR fd, vR ky] [(.ref fs), (.ref a1675), (.ref a1675)])) rfl (by rw [hml]; rfl) (Steps.refl _) (argsL := []) (rest := [(.ref a1675), (.ref a1675)]) (lenOf pd___Z rfl) rfl (by show 2 * 0 + _ ≤ _; exact Nat.le_of_eq rfl) (hb hby d51_8) (fun _ _ => ⟨rfl, K1712, (by decide : 1 + 0 ≤ _), (by decide : 6 + 0 ≤ _)⟩)
 dsimp only [Pt.U, Pt.locs, Pt.cells, Pt.slots] at X1714 l1714 y1714 z1714 st1714 hQ1714
 subst l1714 y1714 z1714
 obtain ⟨rfl, NQ1714, K1714⟩ := hQ1714
 have N1715 := Fr.app N1713 NQ1714
 refine Rch.st (fun _ k => st1714.trans k) ?_
 show Rch p e below T1714 (mkF m 11 #[vR th, vR fd, vR ky] [(.int 0), (.ref a1675), (.ref a1675)]) _
 refine w_ifYes (pc' := 21) X1714 hx hby d51_11 (XT.i0_eq_t (by decide)) (by decide) ?_
 obtain ⟨T1716, h1716, X1716, e1716, E1716, A1716, D1716, -, st1716⟩ := newO X1714 hx hZ hown (wi hw 173 rfl) (wi hw 174 rfl) (wi hw 175 rfl) K1714 (g := (mkF m 21 #[vR th, vR fd, vR ky] [(.ref a1675), (.ref a1675)])) rfl (hb hby d51_21) (by decide) (by decide)
 obtain ⟨a1716, g1716⟩ : ∃ z, z = h1675.size := ⟨_, rfl⟩
 rw [← g1716] at A1716 D1716 st1716
 have ne1717 : a1675 ≠ a1716 := by rw [g1716]; exact Nat.ne_of_lt A1675.lt
 have ne1718 : fb ≠ a1716 := by rw [g1716]; exact Nat.ne_of_lt f1694.lt
 have ne1719 : fd ≠ a1716 := by rw [g1716]; exact Nat.ne_of_lt f1689.lt
 have ne1720 : fs ≠ a1716 := by rw [g1716]; exact Nat.ne_of_lt f1691.lt
 have ne1721 : nb ≠ a1716 := by rw [g1716]; exact Nat.ne_of_lt f1698.lt
 have ne1722 : nm ≠ a1716 := by rw [g1716]; exact Nat.ne_of_lt f1695.lt
 have ne1723 : sa ≠ a1716 := by rw [g1716]; exact Nat.ne_of_lt f1699.lt
 have ne1724 : sbb ≠ a1716 := by rw [g1716]; exact Nat.ne_of_lt f1702.lt
 have ne1725 : th ≠ a1716 := by rw [g1716]; exact Nat.ne_of_lt f1687.lt
 have ge1726 : h0.size ≤ a1716 := Nat.le_trans Z1704 (Nat.le_of_eq g1716.symm)
 have hk1728 := Nat.le_trans hk1686 E1716.1
 have f1730 := f1688.ext E1716
 have f1731 := f1689.ext E1716
 have f1732 := f1690.ext E1716
 have f1733 := f1691.ext E1716
 have f1734 := f1692.ext E1716
 have f1735 := f1693.ext E1716
 have f1736 := f1694.ext E1716
 have f1737 := f1695.ext E1716
 have f1738 := f1696.ext E1716
 have f1739 := f1697.ext E1716
 have f1740 := f1698.ext E1716
 have f1741 := f1699.ext E1716
 have f1742 := f1700.ext E1716
 have f1743 := f1701.ext E1716
 have f1744 := f1702.ext E1716
 have f1745 := A1675.ext E1716
 have f1746 := f1706.ext E1716
 have f1747 := f1707.ext E1716
 have f1748 := f1708.ext E1716
 have f1749 := f1709.ext E1716
 have f1750 := f1710.ext E1716
 have f1751 := f1711.ext E1716
 have Old1752 := Old1703.ext E1716
 have Z1753 := Nat.le_trans Z1704 E1716.1
 have Kp1754 : Keep h0 h1716 [] := Kp1705.ext E1716
 have f1755 : Fld Z h1716 a1716 "java/lang/AbstractStringBuilder" "value" "[B" .null := D1716 (Or.inl (wi hw 188 rfl)) (ty := (.array .byte)) (by decide)
 have f1756 : Fld Z h1716 a1716 "java/lang/AbstractStringBuilder" "coder" "B" (.int (0 : Int32)) := D1716 (Or.inl (wi hw 190 rfl)) (ty := .byte) (by decide)
 have f1757 : Fld Z h1716 a1716 "java/lang/AbstractStringBuilder" "count" "I" (.int (0 : Int32)) := D1716 (Or.inl (wi hw 212 rfl)) (ty := .int) (by decide)
 refine Rch.st (fun _ k => st1716 _ k) ?_
 show Rch p e below T1716 (mkF m 24 #[vR th, vR fd, vR ky] [(.ref a1716), (.ref a1675), (.ref a1675)]) _
 refine w_dup (pc' := 25) X1716 hx hby d51_24 rfl rfl ?_
 obtain ⟨_, _, ⟨T1758, L1758, k1758, n1758⟩, -, X1758, ⟨Lc1758, hQ1758, l1758, y1758, z1758⟩, st1758⟩ := X1716.specialBack hx (y := y_11) rfl hown (mvT hZ (wi hw 176 rfl)) (mvT hZ (wi hw 177 rfl)) (mvT hZ (wi hw 178 rfl)) (by decide) (backOf (W := 3) (rm_Bi l Z a0 hw [] G1 a1716 h1716 h0.size Z1753 (O2) (P5) A1716 f1755 f1756 f1757 (ge1726) Old1752) hZ (wi hw 178 rfl) (wi hw 175 rfl) (by decide) (by decide)) (g := (mkF m 25 #[vR th, vR fd, vR ky] [(.ref a1716), (.ref a1716), (.ref a1675), (.ref a1675)])) rfl (by rw [hml]; rfl) (Steps.refl _) (a := a1716) (argsL := []) (rest := [(.ref a1716), (.ref a1675), (.ref a1675)]) (lenOf pd___V rfl) rfl (by show 2 * 0 + _ ≤ _; exact Nat.le_of_eq rfl) (hb hby d51_25) (fun _ _ => ⟨rfl, e1716, (by decide : 2 + 1 ≤ _), (by decide : 10 + 16 ≤ _)⟩)
 dsimp only [Pt.U, Pt.locs, Pt.cells, Pt.slots] at X1758 l1758 y1758 z1758 st1758 hQ1758
 subst l1758 y1758 z1758
 obtain ⟨t_1758, kt_1758, rfl, NQ1758, K1758, pq1758_0, fq1758_0, fq1758_1, fq1758_2, fq1758_3⟩ := hQ1758
 have N1759 := Fr.app N1715 NQ1758
 have ne1760 := nlt f1745.lt pq1758_0
 have ne1761 := nlt A1716.lt pq1758_0
 have ne1762 := nlt f1736.lt pq1758_0
 have ne1763 := nlt f1731.lt pq1758_0
 have ne1764 := nlt f1733.lt pq1758_0
 have ne1765 := nlt f1740.lt pq1758_0
 have ne1766 := nlt f1737.lt pq1758_0
 have ne1767 := nlt f1741.lt pq1758_0
 have ne1768 := nlt f1744.lt pq1758_0
 have ge1770 : h0.size ≤ t_1758 := Nat.le_trans Z1753 pq1758_0
 have f1772 := f1730.keep K1758 (ninS ne1725 nin0)
 have f1773 := f1731.keep K1758
 have f1774 := f1732.keep K1758 (ninS ne1719 nin0)
 have f1775 := f1733.keep K1758
 have f1776 := f1734.keep K1758 (ninS ne1720 nin0)
 have f1777 := f1735.keep K1758 (ninS ne1720 nin0)
 have f1778 := f1736.keep K1758 (ninS ne1718 nin0)
 have f1779 := f1737.keep K1758
 have f1780 := f1738.keep K1758 (ninS ne1722 nin0)
 have f1781 := f1739.keep K1758 (ninS ne1722 nin0)
 have f1782 := f1740.keep K1758 (ninS ne1721 nin0)
 have f1783 := f1741.keep K1758
 have f1784 := f1742.keep K1758 (ninS ne1723 nin0)
 have f1785 := f1743.keep K1758 (ninS ne1723 nin0)
 have f1786 := f1744.keep K1758 (ninS ne1724 nin0)
 have f1787 := f1745.keep K1758
 have f1788 := f1746.keep K1758 (ninS ne1717 nin0)
 have f1789 := f1747.keep K1758 (ninS ne1717 nin0)
 have f1790 := f1748.keep K1758 (ninS ne1717 nin0)
 have f1791 := f1749.keep K1758 (ninS ne1717 nin0)
 have f1792 := f1750.keep K1758 (ninS ne1717 nin0)
 have f1793 := f1751.keep K1758 (ninS ne1717 nin0)
 have f1794 := A1716.keep K1758
 have Old1795 := Old1752.keep K1758 (allS ge1726 all0)
 have Kp1796 : Keep h0 T1758.heap [] := Kp1754.trans K1758 (allS (Or.inr (Nat.le_trans Kp1705.1 (Nat.le_of_eq g1716.symm))) all0)
 have Z1797 := Nat.le_trans Z1753 K1758.1
 have hk1798 := Nat.le_trans hk1728 K1758.1
 refine Rch.st (fun _ k => st1758.trans k) ?_
 show Rch p e below T1758 (mkF m 28 #[vR th, vR fd, vR ky] [(.ref a1716), (.ref a1675), (.ref a1675)]) _
 refine w_aloadN (pc' := 29) X1758 hx hby d51_28 rfl rfl rfl ?_
 obtain ⟨T1799, X1799, e1799, st1799⟩ := getF X1758 hx hZ hown (host := "") (Or.inl (wi hw 73 rfl)) Via.refl (rfl : T1758.heap = T1758.heap) f1772 (g := (mkF m 29 #[vR th, vR fd, vR ky] [(.ref th), (.ref a1716), (.ref a1675), (.ref a1675)])) rfl rfl (hb hby d51_29)
 refine Rch.st (fun _ k => st1799 _ k) ?_
 show Rch p e below T1799 (mkF m 32 #[vR th, vR fd, vR ky] [(.ref nm), (.ref a1716), (.ref a1675), (.ref a1675)]) _
 obtain ⟨cq1800, kq1800, q1800a, q1800b, q1800c⟩ := isOf hZ e1799 f1794
 obtain ⟨_, _, ⟨T1800, L1800, k1800, n1800⟩, -, X1800, ⟨Lc1800, hQ1800, l1800, y1800, z1800⟩, st1800⟩ := X1799.virtualBack hx (y := y_17) (z := y_17) hown (mvT hZ (wi hw 191 rfl)) (mvT hZ (wi hw 192 rfl)) (notFace_of_selects (args := #[]) (mvT hZ (wi hw 194 rfl))) (mvT hZ (wi hw 194 rfl)) (mvT hZ (wi hw 193 rfl)) (by decide) (backOf (W := 2) (rm_Bap l Z a0 hw [] G1 a1716 t_1758 kt_1758 0 ([] : List Value) nm nb knb 3 nv_ ndd T1758.heap h0.size Z1797 (O2) (P5) f1794 fq1758_0 fq1758_1 fq1758_2 fq1758_3 f1779 f1780 f1781 f1782 (by decide) (by decide) (by first | decide | (simp only [own_take_len, List.length_append, List.length_nil]; decide)) (by first | decide | (simp only [own_take_len, List.length_append, List.length_nil]; decide)) (by decide) (ge1726) (ge1770) (ne1765) (ne1722) (ne1721) ((Ne.symm ne1761)) (ne1766) Old1795) hZ (wi hw 195 rfl) (wi hw 175 rfl) (by decide) (by decide)) q1800a q1800c (g := (mkF m 32 #[vR th, vR fd, vR ky] [(.ref nm), (.ref a1716), (.ref a1675), (.ref a1675)])) rfl (by rw [hml]; rfl) (Steps.refl _) (argsL := [(.ref nm)]) (rest := [(.ref a1675), (.ref a1675)]) (lenOf pd__Ljava_lang_String__Ljava_lang_StringBuilder_ rfl) rfl (by show 2 * 0 + _ ≤ _; exact Nat.le_of_eq rfl) (hb hby d51_32) (fun _ _ => ⟨rfl, e1799, (by decide : 3 + 0 ≤ _), (by decide : 26 + 0 ≤ _)⟩)
 dsimp only [Pt.U, Pt.locs, Pt.cells, Pt.slots] at X1800 l1800 y1800 z1800 st1800 hQ1800
 subst l1800 y1800 z1800
 obtain ⟨rfl, NQ1800, K1800, fq1800_0, fq1800_1, fq1800_2, fq1800_3⟩ := hQ1800
 have N1801 := Fr.app N1759 NQ1800
 have f1804 := f1773.keep K1800
 have f1805 := f1774.keep K1800 (ninS ne1719 (ninS ne1763 nin0))
 have f1806 := f1775.keep K1800
 have f1807 := f1776.keep K1800 (ninS ne1720 (ninS ne1764 nin0))
 have f1808 := f1777.keep K1800 (ninS ne1720 (ninS ne1764 nin0))
 have f1809 := f1778.keep K1800 (ninS ne1718 (ninS ne1762 nin0))
 have f1814 := f1783.keep K1800
 have f1815 := f1784.keep K1800 (ninS ne1723 (ninS ne1767 nin0))
 have f1816 := f1785.keep K1800 (ninS ne1723 (ninS ne1767 nin0))
 have f1817 := f1786.keep K1800 (ninS ne1724 (ninS ne1768 nin0))
 have f1818 := f1787.keep K1800
 have f1819 := f1788.keep K1800 (ninS ne1717 (ninS ne1760 nin0))
 have f1820 := f1789.keep K1800 (ninS ne1717 (ninS ne1760 nin0))
 have f1821 := f1790.keep K1800 (ninS ne1717 (ninS ne1760 nin0))
 have f1822 := f1791.keep K1800 (ninS ne1717 (ninS ne1760 nin0))
 have f1823 := f1792.keep K1800 (ninS ne1717 (ninS ne1760 nin0))
 have f1824 := f1793.keep K1800 (ninS ne1717 (ninS ne1760 nin0))
 have f1825 := f1794.keep K1800
 have Old1826 := Old1795.keep K1800 (allS ge1726 (allS ge1770 all0))
 have Kp1827 : Keep h0 T1800.heap [] := Kp1796.trans K1800 (allS (Or.inr (Nat.le_trans Kp1705.1 (Nat.le_of_eq g1716.symm))) (allS (Or.inr (Nat.le_trans Kp1754.1 pq1758_0)) all0))
 have Z1828 := Nat.le_trans Z1797 K1800.1
 have hk1829 := Nat.le_trans hk1798 K1800.1
 refine Rch.st (fun _ k => st1800.trans k) ?_
 show Rch p e below T1800 (mkF m 35 #[vR th, vR fd, vR ky] [(.ref a1716), (.ref a1675), (.ref a1675)]) _
 have st1830 := ldcAgain (s := s) (vm0 := s.vm) X1800 hx hZ hown (wi hw 238 rfl) hLi0 (g := (mkF m 35 #[vR th, vR fd, vR ky] [(.ref a1716), (.ref a1675), (.ref a1675)])) rfl (hb hby d51_35)
 refine Rch.st (fun _ k => st1830 _ k) ?_
 show Rch p e below T1800 (mkF m 37 #[vR th, vR fd, vR ky] [(.ref sa), (.ref a1716), (.ref a1675), (.ref a1675)]) _
 obtain ⟨cq1831, kq1831, q1831a, q1831b, q1831c⟩ := isOf hZ (rfl : T1800.heap = T1800.heap) f1825
 obtain ⟨_, _, ⟨T1831, L1831, k1831, n1831⟩, -, X1831, ⟨Lc1831, hQ1831, l1831, y1831, z1831⟩, st1831⟩ := X1800.virtualBack hx (y := y_17) (z := y_17) hown (mvT hZ (wi hw 191 rfl)) (mvT hZ (wi hw 192 rfl)) (notFace_of_selects (args := #[]) (mvT hZ (wi hw 194 rfl))) (mvT hZ (wi hw 194 rfl)) (mvT hZ (wi hw 193 rfl)) (by decide) (backOf (W := 2) (rm_Bap l Z a0 hw [] G1 a1716 t_1758 kt_1758 ((0 : Int32) + (3 : Int32)) (([] : List Value) ++ own_take nv_ ndd (3 : Int32).toNatClampNeg) sa sbb ksb 1 ([(.int 46)]) (.int 0) T1800.heap h0.size Z1828 (O2) (P5) f1825 fq1800_0 fq1800_1 fq1800_2 fq1800_3 f1814 f1815 f1816 f1817 (by decide) (by decide) (by first | decide | (simp only [own_take_len, List.length_append, List.length_nil]; decide)) (by first | decide | (simp only [own_take_len, List.length_append, List.length_nil]; decide)) (by decide) (ge1726) (ge1770) (ne1768) (ne1723) (ne1724) ((Ne.symm ne1761)) (ne1767) Old1826) hZ (wi hw 195 rfl) (wi hw 175 rfl) (by decide) (by decide)) q1831a q1831c (g := (mkF m 37 #[vR th, vR fd, vR ky] [(.ref sa), (.ref a1716), (.ref a1675), (.ref a1675)])) rfl (by rw [hml]; rfl) (Steps.refl _) (argsL := [(.ref sa)]) (rest := [(.ref a1675), (.ref a1675)]) (lenOf pd__Ljava_lang_String__Ljava_lang_StringBuilder_ rfl) rfl (by show 2 * 0 + _ ≤ _; exact Nat.le_of_eq rfl) (hb hby d51_37) (fun _ _ => ⟨rfl, (rfl : T1800.heap = T1800.heap), (by decide : 3 + 0 ≤ _), (by decide : 26 + 0 ≤ _)⟩)
 dsimp only [Pt.U, Pt.locs, Pt.cells, Pt.slots] at X1831 l1831 y1831 z1831 st1831 hQ1831
 subst l1831 y1831 z1831
 obtain ⟨rfl, NQ1831, K1831, fq1831_0, fq1831_1, fq1831_2, fq1831_3⟩ := hQ1831
 have N1832 := Fr.app N1801 NQ1831
 have f1835 := f1804.keep K1831
 have f1836 := f1805.keep K1831 (ninS ne1719 (ninS ne1763 nin0))
 have f1837 := f1806.keep K1831
 have f1838 := f1807.keep K1831 (ninS ne1720 (ninS ne1764 nin0))
 have f1839 := f1808.keep K1831 (ninS ne1720 (ninS ne1764 nin0))
 have f1840 := f1809.keep K1831 (ninS ne1718 (ninS ne1762 nin0))
 have f1849 := f1818.keep K1831
 have f1850 := f1819.keep K1831 (ninS ne1717 (ninS ne1760 nin0))
 have f1851 := f1820.keep K1831 (ninS ne1717 (ninS ne1760 nin0))
 have f1852 := f1821.keep K1831 (ninS ne1717 (ninS ne1760 nin0))
 have f1853 := f1822.keep K1831 (ninS ne1717 (ninS ne1760 nin0))
 have f1854 := f1823.keep K1831 (ninS ne1717 (ninS ne1760 nin0))
 have f1855 := f1824.keep K1831 (ninS ne1717 (ninS ne1760 nin0))
 have f1856 := f1825.keep K1831
 have Old1857 := Old1826.keep K1831 (allS ge1726 (allS ge1770 all0))
 have Kp1858 : Keep h0 T1831.heap [] := Kp1827.trans K1831 (allS (Or.inr (Nat.le_trans Kp1705.1 (Nat.le_of_eq g1716.symm))) (allS (Or.inr (Nat.le_trans Kp1754.1 pq1758_0)) all0))
 have Z1859 := Nat.le_trans Z1828 K1831.1
 have hk1860 := Nat.le_trans hk1829 K1831.1
 refine Rch.st (fun _ k => st1831.trans k) ?_
 show Rch p e below T1831 (mkF m 40 #[vR th, vR fd, vR ky] [(.ref a1716), (.ref a1675), (.ref a1675)]) _
 refine w_aloadN (pc' := 41) X1831 hx hby d51_40 rfl rfl rfl ?_
 obtain ⟨cq1861, kq1861, q1861a, q1861b, q1861c⟩ := isOf hZ (rfl : T1831.heap = T1831.heap) f1835
 obtain ⟨_, _, ⟨T1861, L1861, k1861, n1861⟩, -, X1861, ⟨Lc1861, hQ1861, l1861, y1861, z1861⟩, st1861⟩ := X1831.virtualBack hx (y := y_41) (z := y_41) hown (mvT hZ (wi hw 163 rfl)) (mvT hZ (wi hw 164 rfl)) (notFace_of_selects (args := #[]) (mvT hZ (wi hw 166 rfl))) (mvT hZ (wi hw 166 rfl)) (mvT hZ (wi hw 165 rfl)) (by decide) (backOf (W := 3) (rm_nm l Z a0 hw [] fd fs T1831.heap h0.size Z1859 f1836) hZ (wi hw 167 rfl) (wi hw 83 rfl) (by decide) (by decide)) q1861a q1861c (g := (mkF m 41 #[vR th, vR fd, vR ky] [(.ref fd), (.ref a1716), (.ref a1675), (.ref a1675)])) rfl (by rw [hml]; rfl) (Steps.refl _) (argsL := []) (rest := [(.ref a1716), (.ref a1675), (.ref a1675)]) (lenOf pd___Ljava_lang_String_ rfl) rfl (by show 2 * 0 + _ ≤ _; exact Nat.le_of_eq rfl) (hb hby d51_41) (fun _ _ => ⟨rfl, (rfl : T1831.heap = T1831.heap), (by decide : 3 + 0 ≤ _), (by decide : 26 + 0 ≤ _)⟩)
 dsimp only [Pt.U, Pt.locs, Pt.cells, Pt.slots] at X1861 l1861 y1861 z1861 st1861 hQ1861
 subst l1861 y1861 z1861
 obtain ⟨rfl, NQ1861, K1861⟩ := hQ1861
 have N1862 := Fr.app N1832 NQ1861
 refine Rch.st (fun _ k => st1861.trans k) ?_
 show Rch p e below T1861 (mkF m 44 #[vR th, vR fd, vR ky] [(.ref fs), (.ref a1716), (.ref a1675), (.ref a1675)]) _
 obtain ⟨cq1863, kq1863, q1863a, q1863b, q1863c⟩ := isOf hZ K1861 f1856
 obtain ⟨_, _, ⟨T1863, L1863, k1863, n1863⟩, -, X1863, ⟨Lc1863, hQ1863, l1863, y1863, z1863⟩, st1863⟩ := X1861.virtualBack hx (y := y_17) (z := y_17) hown (mvT hZ (wi hw 191 rfl)) (mvT hZ (wi hw 192 rfl)) (notFace_of_selects (args := #[]) (mvT hZ (wi hw 194 rfl))) (mvT hZ (wi hw 194 rfl)) (mvT hZ (wi hw 193 rfl)) (by decide) (backOf (W := 2) (rm_Bap l Z a0 hw [] G1 a1716 t_1758 kt_1758 (((0 : Int32) + (3 : Int32)) + (1 : Int32)) ((([] : List Value) ++ own_take nv_ ndd (3 : Int32).toNatClampNeg) ++ own_take ([(.int 46)]) (.int 0) (1 : Int32).toNatClampNeg) fs fb kfb 1 fv fdd T1831.heap h0.size Z1859 (O2) (P5) f1856 fq1831_0 fq1831_1 fq1831_2 fq1831_3 f1837 f1838 f1839 f1840 (by decide) (by decide) (by first | decide | (simp only [own_take_len, List.length_append, List.length_nil]; decide)) (by first | decide | (simp only [own_take_len, List.length_append, List.length_nil]; decide)) (by decide) (ge1726) (ge1770) (ne1762) (ne1720) (ne1718) ((Ne.symm ne1761)) (ne1764) Old1857) hZ (wi hw 195 rfl) (wi hw 175 rfl) (by decide) (by decide)) q1863a q1863c (g := (mkF m 44 #[vR th, vR fd, vR ky] [(.ref fs), (.ref a1716), (.ref a1675), (.ref a1675)])) rfl (by rw [hml]; rfl) (Steps.refl _) (argsL := [(.ref fs)]) (rest := [(.ref a1675), (.ref a1675)]) (lenOf pd__Ljava_lang_String__Ljava_lang_StringBuilder_ rfl) rfl (by show 2 * 0 + _ ≤ _; exact Nat.le_of_eq rfl) (hb hby d51_44) (fun _ _ => ⟨rfl, K1861, (by decide : 3 + 0 ≤ _), (by decide : 26 + 0 ≤ _)⟩)
 dsimp only [Pt.U, Pt.locs, Pt.cells, Pt.slots] at X1863 l1863 y1863 z1863 st1863 hQ1863
 subst l1863 y1863 z1863
 obtain ⟨rfl, NQ1863, K1863, fq1863_0, fq1863_1, fq1863_2, fq1863_3⟩ := hQ1863
 have N1864 := Fr.app N1862 NQ1863
 have f1881 := f1849.keep K1863
 have f1882 := f1850.keep K1863 (ninS ne1717 (ninS ne1760 nin0))
 have f1883 := f1851.keep K1863 (ninS ne1717 (ninS ne1760 nin0))
 have f1884 := f1852.keep K1863 (ninS ne1717 (ninS ne1760 nin0))
 have f1885 := f1853.keep K1863 (ninS ne1717 (ninS ne1760 nin0))
 have f1886 := f1854.keep K1863 (ninS ne1717 (ninS ne1760 nin0))
 have f1887 := f1855.keep K1863 (ninS ne1717 (ninS ne1760 nin0))
 have f1888 := f1856.keep K1863
 have Old1889 := Old1857.keep K1863 (allS ge1726 (allS ge1770 all0))
 have Kp1890 : Keep h0 T1863.heap [] := Kp1858.trans K1863 (allS (Or.inr (Nat.le_trans Kp1705.1 (Nat.le_of_eq g1716.symm))) (allS (Or.inr (Nat.le_trans Kp1754.1 pq1758_0)) all0))
 have Z1891 := Nat.le_trans Z1859 K1863.1
 have hk1892 := Nat.le_trans hk1860 K1863.1
 refine Rch.st (fun _ k => st1863.trans k) ?_
 show Rch p e below T1863 (mkF m 47 #[vR th, vR fd, vR ky] [(.ref a1716), (.ref a1675), (.ref a1675)]) _
 obtain ⟨cq1893, kq1893, q1893a, q1893b, q1893c⟩ := isOf hZ (rfl : T1863.heap = T1863.heap) f1888
 obtain ⟨_, _, ⟨T1893, L1893, k1893, n1893⟩, -, X1893, ⟨Lc1893, hQ1893, l1893, y1893, z1893⟩, st1893⟩ := X1863.virtualBack hx (y := y_24) (z := y_24) hown (mvT hZ (wi hw 241 rfl)) (mvT hZ (wi hw 242 rfl)) (notFace_of_selects (args := #[]) (mvT hZ (wi hw 244 rfl))) (mvT hZ (wi hw 244 rfl)) (mvT hZ (wi hw 243 rfl)) (by decide) (backOf (W := 2) (rm_ts l Z a0 hw [] G1 a1716 t_1758 kt_1758 ((((0 : Int32) + (3 : Int32)) + (1 : Int32)) + (1 : Int32)) (((([] : List Value) ++ own_take nv_ ndd (3 : Int32).toNatClampNeg) ++ own_take ([(.int 46)]) (.int 0) (1 : Int32).toNatClampNeg) ++ own_take fv fdd (1 : Int32).toNatClampNeg) T1863.heap h0.size Z1891 (O2) (P5) f1888 fq1863_0 fq1863_1 fq1863_2 fq1863_3 (by decide) (by decide) (by decide) (by decide) (by decide) Old1889) hZ (wi hw 245 rfl) (wi hw 175 rfl) (by decide) (by decide)) q1893a q1893c (g := (mkF m 47 #[vR th, vR fd, vR ky] [(.ref a1716), (.ref a1675), (.ref a1675)])) rfl (by rw [hml]; rfl) (Steps.refl _) (argsL := []) (rest := [(.ref a1675), (.ref a1675)]) (lenOf pd___Ljava_lang_String_ rfl) rfl (by show 2 * 0 + _ ≤ _; exact Nat.le_of_eq rfl) (hb hby d51_47) (fun _ _ => ⟨rfl, (rfl : T1863.heap = T1863.heap), (by decide : 3 + 2 ≤ _), (by decide : 26 + 20 ≤ _)⟩)
 dsimp only [Pt.U, Pt.locs, Pt.cells, Pt.slots] at X1893 l1893 y1893 z1893 st1893 hQ1893
 subst l1893 y1893 z1893
 obtain ⟨ra_1893, t_1893, kt_1893, rfl, NQ1893, K1893, pq1893_0, pq1893_1, fq1893_0, fq1893_1, fq1893_2, fq1893_3⟩ := hQ1893
 have N1894 := Fr.app N1864 NQ1893
 have ne1895 := nlt f1881.lt pq1893_0
 have ne1907 := nlt f1881.lt pq1893_1
 have f1935 := f1881.keep K1893
 have f1936 := f1882.keep K1893 nin0
 have f1937 := f1883.keep K1893 nin0
 have f1938 := f1884.keep K1893 nin0
 have f1939 := f1885.keep K1893 nin0
 have f1940 := f1886.keep K1893 nin0
 have f1941 := f1887.keep K1893 nin0
 have Old1947 := Old1889.keep K1893 all0
 have Kp1948 : Keep h0 T1893.heap [] := Kp1890.trans K1893 all0
 have Z1949 := Nat.le_trans Z1891 K1893.1
 have hk1950 := Nat.le_trans hk1892 K1893.1
 refine Rch.st (fun _ k => st1893.trans k) ?_
 show Rch p e below T1893 (mkF m 50 #[vR th, vR fd, vR ky] [(.ref ra_1893), (.ref a1675), (.ref a1675)]) _
 refine w_aconstNull (pc' := 51) X1893 hx hby d51_50 rfl ?_
 refine w_aconstNull (pc' := 52) X1893 hx hby d51_51 rfl ?_
 refine w_aloadN (pc' := 53) X1893 hx hby d51_52 rfl rfl rfl ?_
 obtain ⟨tv1951, f1952⟩ : ∃ tv, Arv Z T1893.heap t_1893 kt_1893 .byte (5 : Int32) tv (.int (0 : Int32)) := by have z := fq1893_3; rw [show ((((0 : Int32) + (3 : Int32)) + (1 : Int32)) + (1 : Int32)) = (5 : Int32) from by decide] at z; exact ⟨_, z⟩
 obtain ⟨_, _, ⟨T1953, L1953, k1953, n1953⟩, -, X1953, ⟨Lc1953, hQ1953, l1953, y1953, z1953⟩, st1953⟩ := X1893.specialBack hx (y := y_37) rfl hown (mvT hZ (wi hw 33 rfl)) (mvT hZ (wi hw 34 rfl)) (mvT hZ (wi hw 35 rfl)) (by decide) (backOf (W := 1) (rm_v4 l Z a0 hw [] G6 a1675 ra_1893 .null .null (.ref th) T1893.heap h0.size Z1949 (O6) f1935 f1936 f1937 f1938 f1939 f1940 f1941 (ge1684) (rfl) (rfl) (rfl) Old1947) hZ (wi hw 35 rfl) (wi hw 3 rfl) (by decide) (by decide)) (g := (mkF m 53 #[vR th, vR fd, vR ky] [(.ref th), .null, .null, (.ref ra_1893), (.ref a1675), (.ref a1675)])) rfl (by rw [hml]; rfl) (Steps.refl _) (a := a1675) (argsL := [(.ref ra_1893), .null, .null, (.ref th)]) (rest := [(.ref a1675)]) (lenOf pd__Ljava_lang_String_Lcom_example_mandoline_mandoline_ClangNode_Ljava_lang_String_Lcom_example_mandoline_mandoline_Variable__V rfl) rfl (by show 2 * 0 + _ ≤ _; exact Nat.le_of_eq rfl) (hb hby d51_53) (fun _ _ => ⟨rfl, (rfl : T1893.heap = T1893.heap), (by decide : 5 + 1 ≤ _), (by decide : 46 + 12 ≤ _)⟩)
 dsimp only [Pt.U, Pt.locs, Pt.cells, Pt.slots] at X1953 l1953 y1953 z1953 st1953 hQ1953
 subst l1953 y1953 z1953
 obtain ⟨m2_1953, rfl, NQ1953, K1953, pq1953_0, fq1953_0, fq1953_1, fq1953_2, fq1953_3, fq1953_4, fq1953_5, fq1953_6, fq1953_7, fq1953_8, fq1953_9, fq1953_10, fq1953_11, fq1953_12⟩ := hQ1953
 have N1954 := Fr.app N1894 NQ1953
 have f1985 := f1935.keep K1953
 have f1991 := fq1893_0.keep K1953
 have f1992 := fq1893_1.keep K1953 (ninS (Ne.symm ne1895) nin0)
 have f1993 := fq1893_2.keep K1953 (ninS (Ne.symm ne1895) nin0)
 have f1994 := f1952.keep K1953 (ninS (Ne.symm ne1907) nin0)
 have Kp1996 : Keep h0 T1953.heap [] := Kp1948.trans K1953 (allS (Or.inr (Nat.le_trans K00.1 (Nat.le_of_eq g1675.symm))) all0)
 have hk1998 := Nat.le_trans hk1950 K1953.1
 refine Rch.st (fun _ k => st1953.trans k) ?_
 show Rch p e below T1953 (mkF m 56 #[vR th, vR fd, vR ky] [(.ref a1675)]) _
 exact Rch.retVW X1953 hx hS0 (by rw [(rfl : T1953.heap = T1953.heap)]; exact hk1998) Bd.returns rfl (Or.inr (Or.inr (Or.inr (Or.inr ⟨rfl, rfl, rfl⟩)))) (hb hby d51_56) (by rw [(rfl : T1953.heap = T1953.heap)]; exact ⟨a1675, m2_1953, ra_1893, t_1893, kt_1893, tv1951, rfl, (own_Fr Z0 N1954), Kp1996, (Nat.le_trans K00.1 (Nat.le_of_eq g1675.symm)), (Nat.le_trans Kp1948.1 pq1953_0), (Nat.le_trans Kp1890.1 pq1893_0), (Nat.le_trans Kp1890.1 pq1893_1), f1985, fq1953_0, fq1953_1, fq1953_3, fq1953_5, fq1953_6, fq1953_7, fq1953_8, fq1953_9, fq1953_10, fq1953_11, fq1953_12, f1991, f1992, f1993, f1994, own_ib_mono (own_ib (s := s.setVm s.vm) hI X1953.warmed) (by decide)⟩) (by decide) (by decide)

theorem ef_rm_ci_n2 (m : MethodId) (G1 : Int32) (G6 : Addr) (th : Addr) (nm : Addr) (fd : Addr) (fs : Addr) (fb : Addr) (kfb : ClassId) (fv : List Value) (fdd : Value) (nb : Addr) (knb : ClassId) (nv_ : List Value) (ndd : Value) (sa : Addr) (sbb : Addr) (ksb : ClassId) (ky : Addr) (kb : Addr) (kkb : ClassId) (b0 : Int32) (hv : Int32) (hz : Int32) (mp : Addr) (fo : Addr) (cK : ClassId)  : entryFrame m #[(.ref mp), (.ref ky), (.ref fo)] 13 = mkF m 0 #[vR mp, vR ky, vR fo, U, U, U, U, U, U, U, U, U, U] [] := by  first | (simp [entryFrame, mkF, argsToLocals, Value.category, maxLocals]; done) | rfl
def Q_rm_ci_n2 (Z : State) (G1 : Int32) (G6 : Addr) (th : Addr) (nm : Addr) (fd : Addr) (fs : Addr) (fb : Addr) (kfb : ClassId) (fv : List Value) (fdd : Value) (nb : Addr) (knb : ClassId) (nv_ : List Value) (ndd : Value) (sa : Addr) (sbb : Addr) (ksb : ClassId) (ky : Addr) (kb : Addr) (kkb : ClassId) (b0 : Int32) (hv : Int32) (hz : Int32) (mp : Addr) (fo : Addr) (cK : ClassId) (h0 : Heap) (n0 : Nat) (v : Option Value) (h : Heap) (vm : Vm) (L : List Loc) : Prop := ∃ (nv : Addr) (m2 : Addr) (ns : Addr) (ts : Addr) (kts : ClassId) (tv : List Value) (x2 : Int32) (y2 : Int32), (v = some (.ref nv)) ∧ (Fr n0 L) ∧ (Keep h0 h [mp, ky]) ∧ (h0.size ≤ nv) ∧ (h0.size ≤ m2) ∧ (h0.size ≤ ns) ∧ (h0.size ≤ ts) ∧ (Exa Z h nv "com/example/mandoline/mandoline/Variable") ∧ (Fld Z h nv "com/example/mandoline/mandoline/Variable" "fields" "Ljava/util/Map;" (.ref m2)) ∧ (Fld Z h nv "com/example/mandoline/mandoline/Variable" "name" "Ljava/lang/String;" (.ref ns)) ∧ (Fld Z h nv "com/example/mandoline/mandoline/Variable" "containing" "Lcom/example/mandoline/mandoline/Variable;" (.ref th)) ∧ (Exa Z h m2 "java/util/LinkedHashMap") ∧ (Fld Z h m2 "java/util/HashMap" "table" "[Ljava/util/HashMap$Node;" .null) ∧ (Fld Z h m2 "java/util/HashMap" "size" "I" (.int (0 : Int32))) ∧ (Fld Z h m2 "java/util/HashMap" "modCount" "I" (.int (0 : Int32))) ∧ (Fld Z h m2 "java/util/HashMap" "threshold" "I" (.int (0 : Int32))) ∧ (Fld Z h m2 "java/util/LinkedHashMap" "putMode" "I" (.int (0 : Int32))) ∧ (Fld Z h m2 "java/util/LinkedHashMap" "head" "Ljava/util/LinkedHashMap$Entry;" .null) ∧ (Fld Z h m2 "java/util/LinkedHashMap" "tail" "Ljava/util/LinkedHashMap$Entry;" .null) ∧ (Exa Z h ns "java/lang/String") ∧ (Fld Z h ns "java/lang/String" "coder" "B" (.int (0 : Int32))) ∧ (Fld Z h ns "java/lang/String" "value" "[B" (.ref ts)) ∧ (Arv Z h ts kts .byte (5 : Int32) tv (.int (0 : Int32))) ∧ (Fld Z h ky "java/lang/String" "coder" "B" (.int (0 : Int32))) ∧ (Fld Z h ky "java/lang/String" "value" "[B" (.ref kb)) ∧ (Fld Z h ky "java/lang/String" "hash" "I" (.int x2)) ∧ (Fld Z h ky "java/lang/String" "hashIsZero" "Z" (.int y2)) ∧ (IB Z vm (["."] : List String))
set_option maxRecDepth 65536 in
set_option maxHeartbeats 40000000 in
theorem rm_ci_n2 (l : Launch) (Z : State) (a0 : Array Value) (hw : ∀ d ∈ tables_1, d.before a0 Z = true) (ws : List Jvm.Cond) (G1 : Int32) (G6 : Addr) (th : Addr) (nm : Addr) (fd : Addr) (fs : Addr) (fb : Addr) (kfb : ClassId) (fv : List Value) (fdd : Value) (nb : Addr) (knb : ClassId) (nv_ : List Value) (ndd : Value) (sa : Addr) (sbb : Addr) (ksb : ClassId) (ky : Addr) (kb : Addr) (kkb : ClassId) (b0 : Int32) (hv : Int32) (hz : Int32) (mp : Addr) (fo : Addr) (cK : ClassId) (h0 : Heap) (n0 : Nat) (Z0 : n0 ≤ h0.size) (O2 : Sta Z Z.heap "java/lang/String" "COMPACT_STRINGS" "Z" (.int G1)) (P5 : ¬ G1 = 0) (O6 : Sta Z Z.heap "java/util/ImmutableCollections" "EMPTY_LIST" "Ljava/util/ImmutableCollections$ListN;" (.ref G6)) (f3 : Exa Z h0 th "com/example/mandoline/mandoline/Variable") (f4 : Fld Z h0 th "com/example/mandoline/mandoline/Variable" "name" "Ljava/lang/String;" (.ref nm)) (f5 : Exa Z h0 fd "com/example/mandoline/mandoline/Place$Field") (f6 : Fld Z h0 fd "com/example/mandoline/mandoline/Place$Field" "name" "Ljava/lang/String;" (.ref fs)) (f7 : Exa Z h0 fs "java/lang/String") (f8 : Fld Z h0 fs "java/lang/String" "coder" "B" (.int (0 : Int32))) (f9 : Fld Z h0 fs "java/lang/String" "value" "[B" (.ref fb)) (f10 : Arv Z h0 fb kfb .byte (1 : Int32) fv fdd) (f11 : Exa Z h0 nm "java/lang/String") (f12 : Fld Z h0 nm "java/lang/String" "coder" "B" (.int (0 : Int32))) (f13 : Fld Z h0 nm "java/lang/String" "value" "[B" (.ref nb)) (f14 : Arv Z h0 nb knb .byte (3 : Int32) nv_ ndd) (f15 : Exa Z h0 sa "java/lang/String") (f16 : Fld Z h0 sa "java/lang/String" "coder" "B" (.int (0 : Int32))) (f17 : Fld Z h0 sa "java/lang/String" "value" "[B" (.ref sbb)) (f18 : Arv Z h0 sbb ksb .byte (1 : Int32) [(.int (46 : Int32))] (.int (0 : Int32))) (f19 : Exa Z h0 ky "java/lang/String") (f20 : Fld Z h0 ky "java/lang/String" "coder" "B" (.int (0 : Int32))) (f21 : Fld Z h0 ky "java/lang/String" "value" "[B" (.ref kb)) (f22 : Fld Z h0 ky "java/lang/String" "hash" "I" (.int hv)) (f23 : Fld Z h0 ky "java/lang/String" "hashIsZero" "Z" (.int hz)) (f24 : Arv Z h0 kb kkb .byte (1 : Int32) [(.int b0)] (.int (0 : Int32))) (f25 : Exa Z h0 mp "java/util/LinkedHashMap") (f26 : Fld Z h0 mp "java/util/HashMap" "table" "[Ljava/util/HashMap$Node;" .null) (f27 : Fld Z h0 mp "java/util/HashMap" "size" "I" (.int (0 : Int32))) (f28 : Fld Z h0 mp "java/util/HashMap" "modCount" "I" (.int (0 : Int32))) (f29 : Fld Z h0 mp "java/util/HashMap" "threshold" "I" (.int (0 : Int32))) (f30 : Fld Z h0 mp "java/util/LinkedHashMap" "putMode" "I" (.int (0 : Int32))) (f31 : Fld Z h0 mp "java/util/LinkedHashMap" "head" "Ljava/util/LinkedHashMap$Entry;" .null) (f32 : Fld Z h0 mp "java/util/LinkedHashMap" "tail" "Ljava/util/LinkedHashMap$Entry;" .null) (f33 : Lam h0 fo cK (.ref th) (.ref fd)) (hmd : LamKit.Made Z "com/example/mandoline/mandoline/Variable" own_sg cK) (gm : n0 ≤ mp) (gk : n0 ≤ ky) (nfk : fo ≠ ky) (nfm : fo ≠ mp) (qs1 : fs ≠ ky) (qs2 : nm ≠ ky) (Old0 : OldL Z n0 h0) :
    MetW l Z y_54 c52 13 (some (.object "java/lang/Object")) ws (Rm 8 8 80 120) #[(.ref mp), (.ref ky), (.ref fo)] h0 (fun vm => IB Z vm (["."] : List String) ∧ Lit (Z.setVm vm) "com/example/mandoline/mandoline/Variable" 131 sa) (Q_rm_ci_n2 Z G1 G6 th nm fd fs fb kfb fv fdd nb knb nv_ ndd sa sbb ksb ky kb kkb b0 hv hz mp fo cK h0 n0) := by
 refine MetFree.of_bodySF (plainFor_of_name pn_java_util_HashMap) hisR ?_
 intro p e s m args below meth c s₁ Bd hml0 hP hK
 obtain ⟨rfl, hZ, hh, hI, hLi0⟩ := hP
 have hx := Bd.exec
 have hby := Bd.bytes
 have hml : c.maxLocals = 13 := hml0
 have hown : s.vm.findClass "java/util/HashMap" = some m.cls := findClass_of_methodNamed Bd.named
 have X0 : Stand p l e (Rm 8 8 80 120) (s.setVm s.vm) m #[(.ref mp), (.ref ky), (.ref fo)] below meth c s₁ [] 0 0 := Stand.of_body Bd
 have e0 : s₁.heap = h0 := by rw [← hh, Bd.state]; rfl
 have N0 := Fr.nil n0
 have K00 : Keep h0 h0 [mp, ky] := Keep.refl _ _
 have hS0 : s.Since s.vm s.heap.size := (State.WarmedH.refl s).since _
 have hk0 : s.heap.size ≤ h0.size := by rw [hh]; exact Nat.le_refl _
 have hkeep : ∀ (b : Addr) (cl : Cell), Z.heap[b]? = some cl → s.heap[b]? = some cl := by rw [hh]; exact Old0.2.2
 show Rch p e below s₁ (entryFrame m #[(.ref mp), (.ref ky), (.ref fo)] 13) (FinW s (Q_rm_ci_n2 Z G1 G6 th nm fd fs fb kfb fv fdd nb knb nv_ ndd sa sbb ksb ky kb kkb b0 hv hz mp fo cK h0 n0) 8 80)
 refine Rch.cast (ef_rm_ci_n2 m G1 G6 th nm fd fs fb kfb fv fdd nb knb nv_ ndd sa sbb ksb ky kb kkb b0 hv hz mp fo cK) ?_
 show Rch p e below s₁ (mkF m 0 #[vR mp, vR ky, vR fo, U, U, U, U, U, U, U, U, U, U] []) _
 refine w_aloadN (pc' := 1) X0 hx hby d52_0 rfl rfl rfl ?_
 refine w_nonnullYes (pc' := 12) X0 hx hby d52_1 rfl (fun q => nomatch q) (by decide) ?_
 refine w_aloadN (pc' := 13) X0 hx hby d52_12 rfl rfl rfl ?_
 obtain ⟨_, _, ⟨T1999, L1999, k1999, n1999⟩, -, X1999, ⟨Lc1999, hQ1999, l1999, y1999, z1999⟩, st1999⟩ := Jvm.LawKit.callS X0 hx (y := y_45) hown (mvT hZ (wi hw 120 rfl)) (mvT hZ (wi hw 121 rfl)) (mvT hZ (wi hw 47 rfl)) (mvT hZ (wi hw 122 rfl)) (by decide) (backOf (W := 0) (rm_hash l Z a0 hw [] G1 ky kb kkb b0 hv hz h0 n0 Z0 (O2) (P5) f19 f20 f21 f22 f23 f24 (gk) Old0) hZ (wi hw 122 rfl) (wi hw 47 rfl) (by decide) (by decide)) (g := (mkF m 13 #[vR mp, vR ky, vR fo, U, U, U, U, U, U, U, U, U, U] [(.ref ky)])) rfl (by rw [hml]; rfl) (argsL := [(.ref ky)]) (rest := []) (lenOf pd__Ljava_lang_Object__I rfl) rfl (by show 2 * 0 + _ ≤ _; exact Nat.le_of_eq rfl) (hb hby d52_13) (fun _ _ => ⟨rfl, e0, (by decide : 0 + 0 ≤ _), (by decide : 0 + 0 ≤ _)⟩)
 dsimp only [Pt.U, Pt.locs, Pt.cells, Pt.slots] at X1999 l1999 y1999 z1999 st1999 hQ1999
 subst l1999 y1999 z1999
 obtain ⟨r_1999, x2_1999, y2_1999, rfl, NQ1999, K1999, pq1999_0, pq1999_1, fq1999_0, fq1999_1, fq1999_2, fq1999_3⟩ := hQ1999
 have N2000 := Fr.app N0 NQ1999
 have f2001 := f3.keep K1999
 have ne2002 : th ≠ ky := ne_exa f3 f19 (by decide)
 have f2003 := f4.keep K1999 (ninS ne2002 nin0)
 have f2004 := f5.keep K1999
 have ne2005 : fd ≠ ky := ne_exa f5 f19 (by decide)
 have f2006 := f6.keep K1999 (ninS ne2005 nin0)
 have f2007 := f7.keep K1999
 have f2008 := f8.keep K1999 (ninS qs1 nin0)
 have f2009 := f9.keep K1999 (ninS qs1 nin0)
 have ne2010 : fb ≠ ky := Ne.symm (Exa.neArv f19 f10 (wi hw 14 rfl))
 have f2011 := f10.keep K1999 (ninS ne2010 nin0)
 have f2012 := f11.keep K1999
 have f2013 := f12.keep K1999 (ninS qs2 nin0)
 have f2014 := f13.keep K1999 (ninS qs2 nin0)
 have ne2015 : nb ≠ ky := Ne.symm (Exa.neArv f19 f14 (wi hw 14 rfl))
 have f2016 := f14.keep K1999 (ninS ne2015 nin0)
 have f2017 := f15.keep K1999
 have f2018 := pq1999_0 _ _ f16
 have f2019 := pq1999_1 _ _ f17
 have ne2020 : sbb ≠ ky := Ne.symm (Exa.neArv f19 f18 (wi hw 14 rfl))
 have f2021 := f18.keep K1999 (ninS ne2020 nin0)
 have f2022 := f19.keep K1999
 have f2025 := f25.keep K1999
 have ne2026 : mp ≠ ky := ne_exa f25 f19 (by decide)
 have f2027 := f26.keep K1999 (ninS ne2026 nin0)
 have f2028 := f27.keep K1999 (ninS ne2026 nin0)
 have f2029 := f28.keep K1999 (ninS ne2026 nin0)
 have f2030 := f29.keep K1999 (ninS ne2026 nin0)
 have f2031 := f30.keep K1999 (ninS ne2026 nin0)
 have f2032 := f31.keep K1999 (ninS ne2026 nin0)
 have f2033 := f32.keep K1999 (ninS ne2026 nin0)
 have f2034 := f33.keep K1999 (ninS nfk nin0)
 have Old2035 := Old0.keep K1999 (allS gk all0)
 have Kp2036 : Keep h0 T1999.heap [mp, ky] := K00.trans K1999 (allS (Or.inl (List.mem_of_getElem? (i := 1) rfl)) all0)
 have Z2037 := Nat.le_trans Z0 K1999.1
 have hk2038 := Nat.le_trans hk0 K1999.1
 refine Rch.st (fun _ k => st1999 _ k) ?_
 show Rch p e below T1999 (mkF m 16 #[vR mp, vR ky, vR fo, U, U, U, U, U, U, U, U, U, U] [(.int r_1999)]) _
 refine w_istoreN (pc' := 17) (l' := #[vR mp, vR ky, vR fo, vI r_1999, U, U, U, U, U, U, U, U, U]) X1999 hx hby d52_16 rfl rfl ?_
 refine w_iconst (pc' := 18) (v := 0) X1999 hx hby d52_17 rfl rfl ?_
 refine w_istore (pc' := 20) (l' := #[vR mp, vR ky, vR fo, vI r_1999, U, U, U, U, vI 0, U, U, U, U]) X1999 hx hby d52_18 rfl rfl ?_
 refine w_aconstNull (pc' := 21) X1999 hx hby d52_20 rfl ?_
 refine w_astore (pc' := 23) (l' := #[vR mp, vR ky, vR fo, vI r_1999, U, U, U, U, vI 0, vN, U, U, U]) X1999 hx hby d52_21 rfl rfl rfl ?_
 refine w_aconstNull (pc' := 24) X1999 hx hby d52_23 rfl ?_
 refine w_astore (pc' := 26) (l' := #[vR mp, vR ky, vR fo, vI r_1999, U, U, U, U, vI 0, vN, vN, U, U]) X1999 hx hby d52_24 rfl rfl rfl ?_
 refine w_aloadN (pc' := 27) X1999 hx hby d52_26 rfl rfl rfl ?_
 obtain ⟨T2039, X2039, e2039, st2039⟩ := getF X1999 hx hZ hown (host := "") (Or.inl (wi hw 141 rfl)) Via.refl (rfl : T1999.heap = T1999.heap) f2028 (g := (mkF m 27 #[vR mp, vR ky, vR fo, vI r_1999, U, U, U, U, vI 0, vN, vN, U, U] [(.ref mp)])) rfl rfl (hb hby d52_27)
 refine Rch.st (fun _ k => st2039 _ k) ?_
 show Rch p e below T2039 (mkF m 30 #[vR mp, vR ky, vR fo, vI r_1999, U, U, U, U, vI 0, vN, vN, U, U] [(.int 0)]) _
 refine w_aloadN (pc' := 31) X2039 hx hby d52_30 rfl rfl rfl ?_
 obtain ⟨T2040, X2040, e2040, st2040⟩ := getF X2039 hx hZ hown (host := "") (Or.inl (wi hw 143 rfl)) Via.refl e2039 f2030 (g := (mkF m 31 #[vR mp, vR ky, vR fo, vI r_1999, U, U, U, U, vI 0, vN, vN, U, U] [(.ref mp), (.int 0)])) rfl rfl (hb hby d52_31)
 refine Rch.st (fun _ k => st2040 _ k) ?_
 show Rch p e below T2040 (mkF m 34 #[vR mp, vR ky, vR fo, vI r_1999, U, U, U, U, vI 0, vN, vN, U, U] [(.int 0), (.int 0)]) _
 refine w_icmpNo (pc' := 37) X2040 hx hby d52_34 (XT.ii_gt_f (by decide)) rfl ?_
 refine w_aloadN (pc' := 38) X2040 hx hby d52_37 rfl rfl rfl ?_
 obtain ⟨T2041, X2041, e2041, st2041⟩ := getF X2040 hx hZ hown (host := "") (Or.inl (wi hw 145 rfl)) Via.refl e2040 f2027 (g := (mkF m 38 #[vR mp, vR ky, vR fo, vI r_1999, U, U, U, U, vI 0, vN, vN, U, U] [(.ref mp)])) rfl rfl (hb hby d52_38)
 refine Rch.st (fun _ k => st2041 _ k) ?_
 show Rch p e below T2041 (mkF m 41 #[vR mp, vR ky, vR fo, vI r_1999, U, U, U, U, vI 0, vN, vN, U, U] [.null]) _
 refine w_dup (pc' := 42) X2041 hx hby d52_41 rfl rfl ?_
 refine w_astore (pc' := 44) (l' := #[vR mp, vR ky, vR fo, vI r_1999, vN, U, U, U, vI 0, vN, vN, U, U]) X2041 hx hby d52_42 rfl rfl rfl ?_
 refine w_nullYes (pc' := 56) X2041 hx hby d52_44 (rfl) (by decide) ?_
 refine w_aloadN (pc' := 57) X2041 hx hby d52_56 rfl rfl rfl ?_
 obtain ⟨cq2042, kq2042, q2042a, q2042b, q2042c⟩ := isOf hZ e2041 f2025
 obtain ⟨_, _, ⟨T2042, L2042, k2042, n2042⟩, -, X2042, ⟨Lc2042, hQ2042, l2042, y2042, z2042⟩, st2042⟩ := X2041.virtualBack hx (y := y_47) (z := y_47) hown (mvT hZ (wi hw 147 rfl)) (mvT hZ (wi hw 148 rfl)) (notFace_of_selects (args := #[]) (mvT hZ (wi hw 150 rfl))) (mvT hZ (wi hw 150 rfl)) (mvT hZ (wi hw 149 rfl)) (by decide) (backOf (W := 0) (rm_rs l Z a0 hw [] mp T1999.heap n0 Z2037 f2025 f2027 f2028 f2029 f2030 f2031 f2032 f2033 (gm)) hZ (wi hw 151 rfl) (wi hw 47 rfl) (by decide) (by decide)) q2042a q2042c (g := (mkF m 57 #[vR mp, vR ky, vR fo, vI r_1999, vN, U, U, U, vI 0, vN, vN, U, U] [(.ref mp)])) rfl (by rw [hml]; rfl) (Steps.refl _) (argsL := []) (rest := []) (lenOf pd____Ljava_util_HashMap_Node_ rfl) rfl (by show 2 * 0 + _ ≤ _; exact Nat.le_of_eq rfl) (hb hby d52_57) (fun _ _ => ⟨rfl, e2041, (by decide : 0 + 1 ≤ _), (by decide : 0 + 16 ≤ _)⟩)
 dsimp only [Pt.U, Pt.locs, Pt.cells, Pt.slots] at X2042 l2042 y2042 z2042 st2042 hQ2042
 subst l2042 y2042 z2042
 obtain ⟨t_2042, kt_2042, rfl, NQ2042, K2042, pq2042_0, pq2042_1, fq2042_0, fq2042_1, fq2042_2, fq2042_3, fq2042_4, fq2042_5, fq2042_6, fq2042_7⟩ := hQ2042
 have N2043 := Fr.app N2000 NQ2042
 have ne2049 := nlt f2022.lt pq2042_0
 have ne2050 := nlt f2025.lt pq2042_0
 have ge2056 : n0 ≤ t_2042 := Nat.le_trans Z2037 pq2042_0
 have f2057 := f2001.keep K2042
 have ne2058 : th ≠ mp := ne_exa f2001 f2025 (by decide)
 have f2059 := f2003.keep K2042 (ninS ne2058 nin0)
 have f2060 := f2004.keep K2042
 have ne2061 : fd ≠ mp := ne_exa f2004 f2025 (by decide)
 have f2062 := f2006.keep K2042 (ninS ne2061 nin0)
 have f2063 := f2007.keep K2042
 have ne2064 : fs ≠ mp := ne_exa f2007 f2025 (by decide)
 have f2065 := f2008.keep K2042 (ninS ne2064 nin0)
 have f2066 := f2009.keep K2042 (ninS ne2064 nin0)
 have ne2067 : fb ≠ mp := Ne.symm (Exa.neArv f2025 f2011 (wi hw 38 rfl))
 have f2068 := f2011.keep K2042 (ninS ne2067 nin0)
 have f2069 := f2012.keep K2042
 have ne2070 : nm ≠ mp := ne_exa f2012 f2025 (by decide)
 have f2071 := f2013.keep K2042 (ninS ne2070 nin0)
 have f2072 := f2014.keep K2042 (ninS ne2070 nin0)
 have ne2073 : nb ≠ mp := Ne.symm (Exa.neArv f2025 f2016 (wi hw 38 rfl))
 have f2074 := f2016.keep K2042 (ninS ne2073 nin0)
 have f2075 := f2017.keep K2042
 have ne2076 : sa ≠ mp := ne_exa f2017 f2025 (by decide)
 have f2077 := f2018.keep K2042 (ninS ne2076 nin0)
 have f2078 := f2019.keep K2042 (ninS ne2076 nin0)
 have ne2079 : sbb ≠ mp := Ne.symm (Exa.neArv f2025 f2021 (wi hw 38 rfl))
 have f2080 := f2021.keep K2042 (ninS ne2079 nin0)
 have f2081 := f2022.keep K2042
 have f2084 := f2025.keep K2042
 have f2085 := f2034.keep K2042 (ninS nfm nin0)
 have f2086 := fq1999_0.keep K2042 (ninS (Ne.symm ne2026) nin0)
 have f2087 := fq1999_1.keep K2042 (ninS (Ne.symm ne2026) nin0)
 have f2088 := fq1999_2.keep K2042 (ninS (Ne.symm ne2026) nin0)
 have f2089 := fq1999_3.keep K2042 (ninS (Ne.symm ne2026) nin0)
 have Old2090 := Old2035.keep K2042 (allS gm all0)
 have Kp2091 : Keep h0 T2042.heap [mp, ky] := Kp2036.trans K2042 (allS (Or.inl (List.mem_of_getElem? (i := 0) rfl)) all0)
 have Z2092 := Nat.le_trans Z2037 K2042.1
 have hk2093 := Nat.le_trans hk2038 K2042.1
 refine Rch.st (fun _ k => st2042.trans k) ?_
 show Rch p e below T2042 (mkF m 60 #[vR mp, vR ky, vR fo, vI r_1999, vN, U, U, U, vI 0, vN, vN, U, U] [(.ref t_2042)]) _
 refine w_dup (pc' := 61) X2042 hx hby d52_60 rfl rfl ?_
 refine w_astore (pc' := 63) (l' := #[vR mp, vR ky, vR fo, vI r_1999, vR t_2042, U, U, U, vI 0, vN, vN, U, U]) X2042 hx hby d52_61 rfl rfl rfl ?_
 refine Rch.st (fun _ k => own_alen X2042 hx hZ (rfl : T2042.heap = T2042.heap) fq2042_7 rfl rfl (hb hby d52_63) k) ?_
 show Rch p e below T2042 (mkF m 64 #[vR mp, vR ky, vR fo, vI r_1999, vR t_2042, U, U, U, vI 0, vN, vN, U, U] [(.int 16)]) _
 refine w_istore (pc' := 66) (l' := #[vR mp, vR ky, vR fo, vI r_1999, vR t_2042, U, vI 16, U, vI 0, vN, vN, U, U]) X2042 hx hby d52_64 rfl rfl ?_
 refine w_aload (pc' := 68) X2042 hx hby d52_66 rfl rfl rfl ?_
 refine w_iload (pc' := 70) X2042 hx hby d52_68 rfl rfl ?_
 refine w_iconst (pc' := 71) (v := 1) X2042 hx hby d52_70 rfl rfl ?_
 refine w_isub (pc' := 72) X2042 hx hby d52_71 rfl ?_
 refine w_iloadN (pc' := 73) X2042 hx hby d52_72 rfl rfl ?_
 refine w_iand (pc' := 74) X2042 hx hby d52_73 rfl ?_
 refine w_dup (pc' := 75) X2042 hx hby d52_74 rfl rfl ?_
 refine w_istore (pc' := 77) (l' := #[vR mp, vR ky, vR fo, vI r_1999, vR t_2042, U, vI 16, vI (((16 : Int32) - (1 : Int32)) &&& r_1999), vI 0, vN, vN, U, U]) X2042 hx hby d52_75 rfl rfl ?_
 refine Rch.st (fun _ k => own_ldA X2042 hx hZ (rfl : T2042.heap = T2042.heap) fq2042_7 (j := (((16 : Int32) - (1 : Int32)) &&& r_1999)) (own_idx _) (v := .null) (by simp) rfl rfl (hb hby d52_77) k) ?_
 show Rch p e below T2042 (mkF m 78 #[vR mp, vR ky, vR fo, vI r_1999, vR t_2042, U, vI 16, vI (((16 : Int32) - (1 : Int32)) &&& r_1999), vI 0, vN, vN, U, U] [.null]) _
 refine w_dup (pc' := 79) X2042 hx hby d52_78 rfl rfl ?_
 refine w_astore (pc' := 81) (l' := #[vR mp, vR ky, vR fo, vI r_1999, vR t_2042, vN, vI 16, vI (((16 : Int32) - (1 : Int32)) &&& r_1999), vI 0, vN, vN, U, U]) X2042 hx hby d52_79 rfl rfl rfl ?_
 refine w_nullYes (pc' := 194) X2042 hx hby d52_81 (rfl) (by decide) ?_
 refine w_aloadN (pc' := 195) X2042 hx hby d52_194 rfl rfl rfl ?_
 obtain ⟨T2094, X2094, e2094, st2094⟩ := getF X2042 hx hZ hown (host := "") (Or.inl (wi hw 154 rfl)) Via.refl (rfl : T2042.heap = T2042.heap) fq2042_2 (g := (mkF m 195 #[vR mp, vR ky, vR fo, vI r_1999, vR t_2042, vN, vI 16, vI (((16 : Int32) - (1 : Int32)) &&& r_1999), vI 0, vN, vN, U, U] [(.ref mp)])) rfl rfl (hb hby d52_195)
 refine Rch.st (fun _ k => st2094 _ k) ?_
 show Rch p e below T2094 (mkF m 198 #[vR mp, vR ky, vR fo, vI r_1999, vR t_2042, vN, vI 16, vI (((16 : Int32) - (1 : Int32)) &&& r_1999), vI 0, vN, vN, U, U] [(.int 0)]) _
 refine w_istore (pc' := 200) (l' := #[vR mp, vR ky, vR fo, vI r_1999, vR t_2042, vN, vI 16, vI (((16 : Int32) - (1 : Int32)) &&& r_1999), vI 0, vN, vN, vI 0, U]) X2094 hx hby d52_198 rfl rfl ?_
 refine w_aloadN (pc' := 201) X2094 hx hby d52_200 rfl rfl rfl ?_
 refine w_aloadN (pc' := 202) X2094 hx hby d52_201 rfl rfl rfl ?_
 obtain ⟨_, _, ⟨T2095, L2095, k2095, n2095⟩, -, X2095, hSx2095, hgx2095, ⟨Lc2095, hQ2095, l2095, y2095, z2095⟩, st2095⟩ := own_apply X2094 hx hZ hown (xi := y_0) (y := y_1) (wi hw 156 rfl) (wi hw 157 rfl) (mvT hZ (wi hw 158 rfl)) hmd own_hok own_hc0 own_hc1 own_hcl (wi hw 110 rfl) (wi hw 2 rfl) (wi hw 159 rfl) (wi hw 160 rfl) (wi hw 161 rfl) (wi hw 3 rfl) own_hxi own_hy (by decide) (by decide) e2094 f2085 f2057 f2081 (PV := fun vm => IB Z vm (["."] : List String) ∧ Lit (Z.setVm vm) "com/example/mandoline/mandoline/Variable" 131 sa) (rm_lam_n2 l Z a0 hw [] G1 G6 th nm fd fs fb kfb fv fdd nb knb nv_ ndd sa sbb ksb ky T2042.heap n0 Z2092 (O2) (P5) (O6) f2057 f2059 f2060 f2062 f2063 f2065 f2066 f2068 f2069 f2071 f2072 f2074 f2075 f2077 f2078 f2080 Old2090) (fun vm hW => ⟨own_ib (s := s.setVm s.vm) hI hW, own_lit (s := s) (vm := s.vm) hLi0 hW.wide⟩) (fun _ _ _ _ q => by obtain ⟨_, _, _, _, _, _, ee, -⟩ := q; exact ⟨_, ee, rfl⟩) (lenOf pd__Lcom_example_mandoline_mandoline_Place_Field_Ljava_lang_String__Lcom_example_mandoline_mandoline_Variable_ rfl) (lenOf pd__Ljava_lang_Object__Ljava_lang_Object_ rfl) (g := (mkF m 202 #[vR mp, vR ky, vR fo, vI r_1999, vR t_2042, vN, vI 16, vI (((16 : Int32) - (1 : Int32)) &&& r_1999), vI 0, vN, vN, vI 0, U] [(.ref ky), (.ref fo)])) rfl (by rw [hml]; rfl) (rest := []) rfl (hb hby d52_202) (by decide) (by show 2 * 0 + 0 + (2 + 11) + _ ≤ _; decide) (by decide : 1 + 6 ≤ _) (by decide : 16 + 58 ≤ _)
 dsimp only [Pt.U, Pt.locs, Pt.cells, Pt.slots] at X2095 l2095 y2095 z2095 st2095 hQ2095 hSx2095 hgx2095
 subst l2095 y2095 z2095
 have hS2095 := foldS hS0 (by rw [e2094]; exact hk2093) hSx2095 hgx2095
 have hk2095 : T2095.heap.size ≤ T2095.heap.size := Nat.le_refl _
 have hZ2095 : Z.Warmed39 (s.setVm T2095.vm).vm := State.Warmed39.trans (t := s.setVm s.vm) hZ hSx2095.1
 have hown2095 : (s.setVm T2095.vm).vm.findClass "java/util/HashMap" = some m.cls := by rw [show (s.setVm T2095.vm).vm = T2095.vm from rfl, hSx2095.1.alike.findClass]; exact hown
 have X2095w : Stand p l e (Rm 8 8 80 120) (s.setVm T2095.vm) m _ below meth c T2095 _ _ _ := X2095
 obtain ⟨nv_2095, m2_2095, ns_2095, ts_2095, kts_2095, tv_2095, rfl, NQ2095, K2095, pq2095_0, pq2095_1, pq2095_2, pq2095_3, fq2095_0, fq2095_1, fq2095_2, fq2095_3, fq2095_4, fq2095_5, fq2095_6, fq2095_7, fq2095_8, fq2095_9, fq2095_10, fq2095_11, fq2095_12, fq2095_13, fq2095_14, fq2095_15, IQ2095⟩ := hQ2095
 have N2096 := Fr.app N2043 NQ2095
 have ne2103 := nlt f2084.lt pq2095_0
 have ne2108 := nlt fq2042_7.lt pq2095_0
 have ne2117 := nlt f2084.lt pq2095_1
 have ne2122 := nlt fq2042_7.lt pq2095_1
 have ne2131 := nlt f2084.lt pq2095_2
 have ne2136 := nlt fq2042_7.lt pq2095_2
 have ne2145 := nlt f2084.lt pq2095_3
 have ne2150 := nlt fq2042_7.lt pq2095_3
 have f2171 := f2084.keep K2095
 have f2173 := f2086.keep K2095 nin0
 have f2174 := f2087.keep K2095 nin0
 have f2175 := f2088.keep K2095 nin0
 have f2176 := f2089.keep K2095 nin0
 have f2177 := fq2042_0.keep K2095 nin0
 have f2178 := fq2042_1.keep K2095 nin0
 have f2179 := fq2042_2.keep K2095 nin0
 have f2180 := fq2042_3.keep K2095 nin0
 have f2181 := fq2042_4.keep K2095 nin0
 have f2182 := fq2042_5.keep K2095 nin0
 have f2183 := fq2042_6.keep K2095 nin0
 have f2184 := fq2042_7.keep K2095 nin0
 have Kp2186 : Keep h0 T2095.heap [mp, ky] := Kp2091.trans K2095 all0
 have Z2187 := Nat.le_trans Z2092 K2095.1
 refine Rch.st (fun _ k => st2095.trans k) ?_
 show Rch p e below T2095 (mkF m 207 #[vR mp, vR ky, vR fo, vI r_1999, vR t_2042, vN, vI 16, vI (((16 : Int32) - (1 : Int32)) &&& r_1999), vI 0, vN, vN, vI 0, U] [(.ref nv_2095)]) _
 refine w_astore (pc' := 209) (l' := #[vR mp, vR ky, vR fo, vI r_1999, vR t_2042, vN, vI 16, vI (((16 : Int32) - (1 : Int32)) &&& r_1999), vI 0, vN, vN, vI 0, vR nv_2095]) X2095w hx hby d52_207 rfl rfl rfl ?_
 refine w_iload (pc' := 211) X2095w hx hby d52_209 rfl rfl ?_
 refine w_aloadN (pc' := 212) X2095w hx hby d52_211 rfl rfl rfl ?_
 obtain ⟨T2188, X2188, e2188, st2188⟩ := getF X2095w hx hZ2095 hown2095 (host := "") (Or.inl (wi hw 154 rfl)) Via.refl (rfl : T2095.heap = T2095.heap) f2179 (g := (mkF m 212 #[vR mp, vR ky, vR fo, vI r_1999, vR t_2042, vN, vI 16, vI (((16 : Int32) - (1 : Int32)) &&& r_1999), vI 0, vN, vN, vI 0, vR nv_2095] [(.ref mp), (.int 0)])) rfl rfl (hb hby d52_212)
 refine Rch.st (fun _ k => st2188 _ k) ?_
 show Rch p e below T2188 (mkF m 215 #[vR mp, vR ky, vR fo, vI r_1999, vR t_2042, vN, vI 16, vI (((16 : Int32) - (1 : Int32)) &&& r_1999), vI 0, vN, vN, vI 0, vR nv_2095] [(.int 0), (.int 0)]) _
 refine w_icmpYes (pc' := 226) X2188 hx hby d52_215 (XT.ii_eq_t (rfl)) (by decide) ?_
 refine w_aload (pc' := 228) X2188 hx hby d52_226 rfl rfl rfl ?_
 refine w_nonnullYes (pc' := 233) X2188 hx hby d52_228 rfl (fun q => nomatch q) (by decide) ?_
 refine w_aload (pc' := 235) X2188 hx hby d52_233 rfl rfl rfl ?_
 refine w_nullYes (pc' := 254) X2188 hx hby d52_235 (rfl) (by decide) ?_
 refine w_aload (pc' := 256) X2188 hx hby d52_254 rfl rfl rfl ?_
 refine w_nullYes (pc' := 275) X2188 hx hby d52_256 (rfl) (by decide) ?_
 refine w_aload (pc' := 277) X2188 hx hby d52_275 rfl rfl rfl ?_
 refine w_iload (pc' := 279) X2188 hx hby d52_277 rfl rfl ?_
 refine w_aloadN (pc' := 280) X2188 hx hby d52_279 rfl rfl rfl ?_
 refine w_iloadN (pc' := 281) X2188 hx hby d52_280 rfl rfl ?_
 refine w_aloadN (pc' := 282) X2188 hx hby d52_281 rfl rfl rfl ?_
 refine w_aload (pc' := 284) X2188 hx hby d52_282 rfl rfl rfl ?_
 refine w_aload (pc' := 286) X2188 hx hby d52_284 rfl rfl rfl ?_
 obtain ⟨cq2189, kq2189, q2189a, q2189b, q2189c⟩ := isOf hZ2095 e2188 f2171
 obtain ⟨_, _, ⟨T2189, L2189, k2189, n2189⟩, -, X2189, ⟨Lc2189, hQ2189, l2189, y2189, z2189⟩, st2189⟩ := X2188.virtualBack hx (y := y_55) (z := y_51) hown2095 (mvT hZ2095 (wi hw 286 rfl)) (mvT hZ2095 (wi hw 287 rfl)) (own_nf (args := #[]) (mvT hZ2095 (wi hw 114 rfl)) rfl) (mvT hZ2095 (wi hw 289 rfl)) (mvT hZ2095 (wi hw 290 rfl)) (by decide) (backOf (W := 2) (rm_nn l Z a0 hw [] mp t_2042 r_1999 ky nv_2095 T2095.heap n0 Z2187 f2171 f2177 f2178 f2179 f2180 f2181 f2182 f2183 (gm)) hZ2095 (wi hw 291 rfl) (wi hw 39 rfl) (by decide) (by decide)) q2189a q2189c (g := (mkF m 286 #[vR mp, vR ky, vR fo, vI r_1999, vR t_2042, vN, vI 16, vI (((16 : Int32) - (1 : Int32)) &&& r_1999), vI 0, vN, vN, vI 0, vR nv_2095] [.null, (.ref nv_2095), (.ref ky), (.int r_1999), (.ref mp), (.int (((16 : Int32) - (1 : Int32)) &&& r_1999)), (.ref t_2042)])) rfl (by rw [hml]; rfl) (Steps.refl _) (argsL := [(.int r_1999), (.ref ky), (.ref nv_2095), .null]) (rest := [(.int (((16 : Int32) - (1 : Int32)) &&& r_1999)), (.ref t_2042)]) (lenOf pd__ILjava_lang_Object_Ljava_lang_Object_Ljava_util_HashMap_Node__Ljava_util_HashMap_Node_ rfl) rfl (by show 2 * 0 + _ ≤ _; exact Nat.le_of_eq rfl) (hb hby d52_286) (fun _ _ => ⟨rfl, e2188, (by decide : 7 + 1 ≤ _), (by decide : 74 + 6 ≤ _)⟩)
 dsimp only [Pt.U, Pt.locs, Pt.cells, Pt.slots] at X2189 l2189 y2189 z2189 st2189 hQ2189
 subst l2189 y2189 z2189
 obtain ⟨en_2189, rfl, NQ2189, K2189, pq2189_0, fq2189_0, fq2189_1, fq2189_2, fq2189_3, fq2189_4, fq2189_5, fq2189_6, fq2189_7⟩ := hQ2189
 have N2190 := Fr.app N2096 NQ2189
 have f2227 := f2171.keep K2189
 have f2229 := f2173.keep K2189 (ninS (Ne.symm ne2026) nin0)
 have f2230 := f2174.keep K2189 (ninS (Ne.symm ne2026) nin0)
 have f2231 := f2175.keep K2189 (ninS (Ne.symm ne2026) nin0)
 have f2232 := f2176.keep K2189 (ninS (Ne.symm ne2026) nin0)
 have f2233 := f2184.keep K2189 (ninS (Ne.symm ne2050) nin0)
 have f2234 := fq2095_0.keep K2189
 have f2235 := fq2095_1.keep K2189 (ninS (Ne.symm ne2103) nin0)
 have f2236 := fq2095_2.keep K2189 (ninS (Ne.symm ne2103) nin0)
 have f2237 := fq2095_3.keep K2189 (ninS (Ne.symm ne2103) nin0)
 have f2238 := fq2095_4.keep K2189
 have f2239 := fq2095_5.keep K2189 (ninS (Ne.symm ne2117) nin0)
 have f2240 := fq2095_6.keep K2189 (ninS (Ne.symm ne2117) nin0)
 have f2241 := fq2095_7.keep K2189 (ninS (Ne.symm ne2117) nin0)
 have f2242 := fq2095_8.keep K2189 (ninS (Ne.symm ne2117) nin0)
 have f2243 := fq2095_9.keep K2189 (ninS (Ne.symm ne2117) nin0)
 have f2244 := fq2095_10.keep K2189 (ninS (Ne.symm ne2117) nin0)
 have f2245 := fq2095_11.keep K2189 (ninS (Ne.symm ne2117) nin0)
 have f2246 := fq2095_12.keep K2189
 have f2247 := fq2095_13.keep K2189 (ninS (Ne.symm ne2131) nin0)
 have f2248 := fq2095_14.keep K2189 (ninS (Ne.symm ne2131) nin0)
 have f2249 := fq2095_15.keep K2189 (ninS (Ne.symm ne2145) nin0)
 have Kp2251 : Keep h0 T2189.heap [mp, ky] := Kp2186.trans K2189 (allS (Or.inl (List.mem_of_getElem? (i := 0) rfl)) all0)
 have Z2252 := Nat.le_trans Z2187 K2189.1
 have hk2253 := Nat.le_trans hk2095 K2189.1
 refine Rch.st (fun _ k => st2189.trans k) ?_
 show Rch p e below T2189 (mkF m 289 #[vR mp, vR ky, vR fo, vI r_1999, vR t_2042, vN, vI 16, vI (((16 : Int32) - (1 : Int32)) &&& r_1999), vI 0, vN, vN, vI 0, vR nv_2095] [(.ref en_2189), (.int (((16 : Int32) - (1 : Int32)) &&& r_1999)), (.ref t_2042)]) _
 obtain ⟨T2254, h2254, X2254, e2254, W2254, st2254⟩ := own_stA X2189 hx hZ2095 (rfl : T2189.heap = T2189.heap) f2233 (pq2042_1) (Ins.of_exa fq2189_0 (wi hw 302 rfl)) (j := (((16 : Int32) - (1 : Int32)) &&& r_1999)) (own_idx _) (g := (mkF m 289 #[vR mp, vR ky, vR fo, vI r_1999, vR t_2042, vN, vI 16, vI (((16 : Int32) - (1 : Int32)) &&& r_1999), vI 0, vN, vN, vI 0, vR nv_2095] [(.ref en_2189), (.int (((16 : Int32) - (1 : Int32)) &&& r_1999)), (.ref t_2042)])) rfl rfl (hb hby d52_289)
 have N2255 := Fr.snoc X2254 N2190 ge2056
 have f2274 := f2227.wr W2254
 have f2276 := f2229.other W2254 (Or.inl ne2049)
 have f2277 := f2230.other W2254 (Or.inl ne2049)
 have f2278 := f2231.other W2254 (Or.inl ne2049)
 have f2279 := f2232.other W2254 (Or.inl ne2049)
 have f2280 := f2234.wr W2254
 have f2281 := f2235.other W2254 (Or.inl (Ne.symm ne2108))
 have f2282 := f2236.other W2254 (Or.inl (Ne.symm ne2108))
 have f2283 := f2237.other W2254 (Or.inl (Ne.symm ne2108))
 have f2284 := f2238.wr W2254
 have f2285 := f2239.other W2254 (Or.inl (Ne.symm ne2122))
 have f2286 := f2240.other W2254 (Or.inl (Ne.symm ne2122))
 have f2287 := f2241.other W2254 (Or.inl (Ne.symm ne2122))
 have f2288 := f2242.other W2254 (Or.inl (Ne.symm ne2122))
 have f2289 := f2243.other W2254 (Or.inl (Ne.symm ne2122))
 have f2290 := f2244.other W2254 (Or.inl (Ne.symm ne2122))
 have f2291 := f2245.other W2254 (Or.inl (Ne.symm ne2122))
 have f2292 := f2246.wr W2254
 have f2293 := f2247.other W2254 (Or.inl (Ne.symm ne2136))
 have f2294 := f2248.other W2254 (Or.inl (Ne.symm ne2136))
 have f2295 := f2249.other W2254 (Ne.symm ne2150)
 have f2298 := fq2189_2.other W2254 (Or.inl ne2050)
 have f2299 := fq2189_3.other W2254 (Or.inl ne2050)
 have f2302 := fq2189_6.other W2254 (Or.inl ne2050)
 have Z2305 := Nat.le_trans Z2252 (Keep.of_wr W2254).1
 have hk2306 := Nat.le_trans hk2253 (Keep.of_wr W2254).1
 have Kp2307 : Keep h0 h2254 [mp, ky] := Kp2251.wr W2254 (Or.inr (Nat.le_trans Kp2036.1 pq2042_0))
 refine Rch.st (fun _ k => st2254 _ k) ?_
 show Rch p e below T2254 (mkF m 290 #[vR mp, vR ky, vR fo, vI r_1999, vR t_2042, vN, vI 16, vI (((16 : Int32) - (1 : Int32)) &&& r_1999), vI 0, vN, vN, vI 0, vR nv_2095] []) _
 refine w_iload (pc' := 292) X2254 hx hby d52_290 rfl rfl ?_
 refine w_bipush (pc' := 294) (v := 7) X2254 hx hby d52_292 rfl rfl ?_
 refine w_icmpYes (pc' := 304) X2254 hx hby d52_294 (XT.ii_lt_t (by decide)) (by decide) ?_
 refine w_aloadN (pc' := 305) X2254 hx hby d52_304 rfl rfl rfl ?_
 refine w_iload (pc' := 307) X2254 hx hby d52_305 rfl rfl ?_
 refine w_iconst (pc' := 308) (v := 1) X2254 hx hby d52_307 rfl rfl ?_
 refine w_iadd (pc' := 309) X2254 hx hby d52_308 rfl ?_
 obtain ⟨T2308, h2308, X2308, e2308, W2308, st2308⟩ := putF X2254 hx hZ2095 hown2095 (host := "") (Or.inl (wi hw 154 rfl)) Via.refl e2254 f2299 f2274 (Or.inl (wi hw 155 rfl)) (wi hw 38 rfl) (ty := .int) (by decide) rfl rfl (g := (mkF m 309 #[vR mp, vR ky, vR fo, vI r_1999, vR t_2042, vN, vI 16, vI (((16 : Int32) - (1 : Int32)) &&& r_1999), vI 0, vN, vN, vI 0, vR nv_2095] [(.int ((0 : Int32) + (1 : Int32))), (.ref mp)])) rfl rfl (hb hby d52_309)
 have N2309 := Fr.snoc X2308 N2255 gm
 have f2328 := f2274.wr W2308
 have f2330 := f2276.other W2308 (Or.inl (Ne.symm ne2026))
 have f2331 := f2277.other W2308 (Or.inl (Ne.symm ne2026))
 have f2332 := f2278.other W2308 (Or.inl (Ne.symm ne2026))
 have f2333 := f2279.other W2308 (Or.inl (Ne.symm ne2026))
 have f2334 := f2280.wr W2308
 have f2335 := f2281.other W2308 (Or.inl (Ne.symm ne2103))
 have f2336 := f2282.other W2308 (Or.inl (Ne.symm ne2103))
 have f2337 := f2283.other W2308 (Or.inl (Ne.symm ne2103))
 have f2338 := f2284.wr W2308
 have f2339 := f2285.other W2308 (Or.inl (Ne.symm ne2117))
 have f2340 := f2286.other W2308 (Or.inl (Ne.symm ne2117))
 have f2341 := f2287.other W2308 (Or.inl (Ne.symm ne2117))
 have f2342 := f2288.other W2308 (Or.inl (Ne.symm ne2117))
 have f2343 := f2289.other W2308 (Or.inl (Ne.symm ne2117))
 have f2344 := f2290.other W2308 (Or.inl (Ne.symm ne2117))
 have f2345 := f2291.other W2308 (Or.inl (Ne.symm ne2117))
 have f2346 := f2292.wr W2308
 have f2347 := f2293.other W2308 (Or.inl (Ne.symm ne2131))
 have f2348 := f2294.other W2308 (Or.inl (Ne.symm ne2131))
 have f2349 := f2295.other W2308 (Ne.symm ne2145)
 have f2352 := f2298.other W2308 (Or.inr (slot_ne (t := .int) (t' := .int) (Or.inl (wi hw 142 rfl)) (Or.inl (wi hw 155 rfl)) (by decide) (by decide) (by decide)))
 have f2356 := f2302.other W2308 (Or.inr (slot_ne (t := (.object "java/util/LinkedHashMap$Entry")) (t' := .int) (Or.inl (wi hw 322 rfl)) (Or.inl (wi hw 155 rfl)) (by decide) (by decide) (by decide)))
 have Z2359 := Nat.le_trans Z2305 (Keep.of_wr W2308).1
 have hk2360 := Nat.le_trans hk2306 (Keep.of_wr W2308).1
 have Kp2361 : Keep h0 h2308 [mp, ky] := Kp2307.wr W2308 (Or.inl (List.mem_of_getElem? (i := 0) rfl))
 refine Rch.st (fun _ k => st2308 _ k) ?_
 show Rch p e below T2308 (mkF m 312 #[vR mp, vR ky, vR fo, vI r_1999, vR t_2042, vN, vI 16, vI (((16 : Int32) - (1 : Int32)) &&& r_1999), vI 0, vN, vN, vI 0, vR nv_2095] []) _
 refine w_aloadN (pc' := 313) X2308 hx hby d52_312 rfl rfl rfl ?_
 refine w_dup (pc' := 314) X2308 hx hby d52_313 rfl rfl ?_
 obtain ⟨T2362, X2362, e2362, st2362⟩ := getF X2308 hx hZ2095 hown2095 (host := "") (Or.inl (wi hw 141 rfl)) Via.refl e2308 f2352 (g := (mkF m 314 #[vR mp, vR ky, vR fo, vI r_1999, vR t_2042, vN, vI 16, vI (((16 : Int32) - (1 : Int32)) &&& r_1999), vI 0, vN, vN, vI 0, vR nv_2095] [(.ref mp), (.ref mp)])) rfl rfl (hb hby d52_314)
 refine Rch.st (fun _ k => st2362 _ k) ?_
 show Rch p e below T2362 (mkF m 317 #[vR mp, vR ky, vR fo, vI r_1999, vR t_2042, vN, vI 16, vI (((16 : Int32) - (1 : Int32)) &&& r_1999), vI 0, vN, vN, vI 0, vR nv_2095] [(.int 0), (.ref mp)]) _
 refine w_iconst (pc' := 318) (v := 1) X2362 hx hby d52_317 rfl rfl ?_
 refine w_iadd (pc' := 319) X2362 hx hby d52_318 rfl ?_
 obtain ⟨T2363, h2363, X2363, e2363, W2363, st2363⟩ := putF X2362 hx hZ2095 hown2095 (host := "") (Or.inl (wi hw 141 rfl)) Via.refl e2362 f2352 f2328 (Or.inl (wi hw 142 rfl)) (wi hw 38 rfl) (ty := .int) (by decide) rfl rfl (g := (mkF m 319 #[vR mp, vR ky, vR fo, vI r_1999, vR t_2042, vN, vI 16, vI (((16 : Int32) - (1 : Int32)) &&& r_1999), vI 0, vN, vN, vI 0, vR nv_2095] [(.int ((0 : Int32) + (1 : Int32))), (.ref mp)])) rfl rfl (hb hby d52_319)
 have N2364 := Fr.snoc X2363 N2309 gm
 have f2383 := f2328.wr W2363
 have f2385 := f2330.other W2363 (Or.inl (Ne.symm ne2026))
 have f2386 := f2331.other W2363 (Or.inl (Ne.symm ne2026))
 have f2387 := f2332.other W2363 (Or.inl (Ne.symm ne2026))
 have f2388 := f2333.other W2363 (Or.inl (Ne.symm ne2026))
 have f2389 := f2334.wr W2363
 have f2390 := f2335.other W2363 (Or.inl (Ne.symm ne2103))
 have f2391 := f2336.other W2363 (Or.inl (Ne.symm ne2103))
 have f2392 := f2337.other W2363 (Or.inl (Ne.symm ne2103))
 have f2393 := f2338.wr W2363
 have f2394 := f2339.other W2363 (Or.inl (Ne.symm ne2117))
 have f2395 := f2340.other W2363 (Or.inl (Ne.symm ne2117))
 have f2396 := f2341.other W2363 (Or.inl (Ne.symm ne2117))
 have f2397 := f2342.other W2363 (Or.inl (Ne.symm ne2117))
 have f2398 := f2343.other W2363 (Or.inl (Ne.symm ne2117))
 have f2399 := f2344.other W2363 (Or.inl (Ne.symm ne2117))
 have f2400 := f2345.other W2363 (Or.inl (Ne.symm ne2117))
 have f2401 := f2346.wr W2363
 have f2402 := f2347.other W2363 (Or.inl (Ne.symm ne2131))
 have f2403 := f2348.other W2363 (Or.inl (Ne.symm ne2131))
 have f2404 := f2349.other W2363 (Ne.symm ne2145)
 have f2411 := f2356.other W2363 (Or.inr (slot_ne (t := (.object "java/util/LinkedHashMap$Entry")) (t' := .int) (Or.inl (wi hw 322 rfl)) (Or.inl (wi hw 142 rfl)) (by decide) (by decide) (by decide)))
 have Z2414 := Nat.le_trans Z2359 (Keep.of_wr W2363).1
 have hk2415 := Nat.le_trans hk2360 (Keep.of_wr W2363).1
 have Kp2416 : Keep h0 h2363 [mp, ky] := Kp2361.wr W2363 (Or.inl (List.mem_of_getElem? (i := 0) rfl))
 refine Rch.st (fun _ k => st2363 _ k) ?_
 show Rch p e below T2363 (mkF m 322 #[vR mp, vR ky, vR fo, vI r_1999, vR t_2042, vN, vI 16, vI (((16 : Int32) - (1 : Int32)) &&& r_1999), vI 0, vN, vN, vI 0, vR nv_2095] []) _
 refine w_aloadN (pc' := 323) X2363 hx hby d52_322 rfl rfl rfl ?_
 refine w_iconst (pc' := 324) (v := 1) X2363 hx hby d52_323 rfl rfl ?_
 obtain ⟨cq2417, kq2417, q2417a, q2417b, q2417c⟩ := isOf hZ2095 e2363 f2383
 obtain ⟨_, _, ⟨T2417, L2417, k2417, n2417⟩, -, X2417, ⟨Lc2417, hQ2417, l2417, y2417, z2417⟩, st2417⟩ := X2363.virtualBack hx (y := y_56) (z := y_53) hown2095 (mvT hZ2095 (wi hw 323 rfl)) (mvT hZ2095 (wi hw 324 rfl)) (own_nf (args := #[]) (mvT hZ2095 (wi hw 114 rfl)) rfl) (mvT hZ2095 (wi hw 326 rfl)) (mvT hZ2095 (wi hw 327 rfl)) (by decide) (backOf (W := 0) (rm_ai l Z a0 hw [] mp en_2189 h2363 n0 Z2414 f2383 f2411) hZ2095 (wi hw 328 rfl) (wi hw 39 rfl) (by decide) (by decide)) q2417a q2417c (g := (mkF m 324 #[vR mp, vR ky, vR fo, vI r_1999, vR t_2042, vN, vI 16, vI (((16 : Int32) - (1 : Int32)) &&& r_1999), vI 0, vN, vN, vI 0, vR nv_2095] [(.int 1), (.ref mp)])) rfl (by rw [hml]; rfl) (Steps.refl _) (argsL := [(.int 1)]) (rest := []) (lenOf pd__Z_V rfl) rfl (by show 2 * 0 + _ ≤ _; exact Nat.le_of_eq rfl) (hb hby d52_324) (fun _ _ => ⟨rfl, e2363, (by decide : 8 + 0 ≤ _), (by decide : 80 + 0 ≤ _)⟩)
 dsimp only [Pt.U, Pt.locs, Pt.cells, Pt.slots] at X2417 l2417 y2417 z2417 st2417 hQ2417
 subst l2417 y2417 z2417
 obtain ⟨rfl, NQ2417, K2417⟩ := hQ2417
 have N2418 := Fr.app N2364 NQ2417
 refine Rch.st (fun _ k => st2417.trans k) ?_
 show Rch p e below T2417 (mkF m 327 #[vR mp, vR ky, vR fo, vI r_1999, vR t_2042, vN, vI 16, vI (((16 : Int32) - (1 : Int32)) &&& r_1999), vI 0, vN, vN, vI 0, vR nv_2095] []) _
 refine w_aload (pc' := 329) X2417 hx hby d52_327 rfl rfl rfl ?_
 exact Rch.retVW X2417 hx hS2095 (by rw [K2417]; exact hk2415) Bd.returns rfl (Or.inr (Or.inr (Or.inr (Or.inr ⟨rfl, rfl, rfl⟩)))) (hb hby d52_329) (by rw [K2417]; exact ⟨nv_2095, m2_2095, ns_2095, ts_2095, kts_2095, tv_2095, x2_1999, y2_1999, rfl, N2418, Kp2416, (Nat.le_trans Kp2091.1 pq2095_0), (Nat.le_trans Kp2091.1 pq2095_1), (Nat.le_trans Kp2091.1 pq2095_2), (Nat.le_trans Kp2091.1 pq2095_3), f2389, f2390, f2391, f2392, f2393, f2394, f2395, f2396, f2397, f2398, f2399, f2400, f2401, f2402, f2403, f2404, f2385, f2386, f2387, f2388, own_ib_mono (own_ib (s := s.setVm T2095.vm) IQ2095 X2417.warmed) (by decide)⟩) (by decide) (by decide)

theorem ef_rm_af_n2 (m : MethodId) (G1 : Int32) (G6 : Addr) (th : Addr) (nm : Addr) (fd : Addr) (fs : Addr) (fb : Addr) (kfb : ClassId) (fv : List Value) (fdd : Value) (nb : Addr) (knb : ClassId) (nv_ : List Value) (ndd : Value) (sa : Addr) (sbb : Addr) (ksb : ClassId) (ky : Addr) (kb : Addr) (kkb : ClassId) (b0 : Int32) (hv : Int32) (hz : Int32) (mp : Addr)  : entryFrame m #[(.ref th), (.ref fd)] 2 = mkF m 0 #[vR th, vR fd] [] := by  first | (simp [entryFrame, mkF, argsToLocals, Value.category, maxLocals]; done) | rfl
def Q_rm_af_n2 (Z : State) (G1 : Int32) (G6 : Addr) (th : Addr) (nm : Addr) (fd : Addr) (fs : Addr) (fb : Addr) (kfb : ClassId) (fv : List Value) (fdd : Value) (nb : Addr) (knb : ClassId) (nv_ : List Value) (ndd : Value) (sa : Addr) (sbb : Addr) (ksb : ClassId) (ky : Addr) (kb : Addr) (kkb : ClassId) (b0 : Int32) (hv : Int32) (hz : Int32) (mp : Addr) (h0 : Heap) (n0 : Nat) (v : Option Value) (h : Heap) (vm : Vm) (L : List Loc) : Prop := ∃ (nv : Addr) (m2 : Addr) (ns : Addr) (ts : Addr) (kts : ClassId) (tv : List Value) (x2 : Int32) (y2 : Int32), (v = some (.ref nv)) ∧ (Fr n0 L) ∧ (Keep h0 h [mp, ky]) ∧ (h0.size ≤ nv) ∧ (h0.size ≤ m2) ∧ (h0.size ≤ ns) ∧ (h0.size ≤ ts) ∧ (Exa Z h nv "com/example/mandoline/mandoline/Variable") ∧ (Fld Z h nv "com/example/mandoline/mandoline/Variable" "fields" "Ljava/util/Map;" (.ref m2)) ∧ (Fld Z h nv "com/example/mandoline/mandoline/Variable" "name" "Ljava/lang/String;" (.ref ns)) ∧ (Fld Z h nv "com/example/mandoline/mandoline/Variable" "containing" "Lcom/example/mandoline/mandoline/Variable;" (.ref th)) ∧ (Exa Z h m2 "java/util/LinkedHashMap") ∧ (Fld Z h m2 "java/util/HashMap" "table" "[Ljava/util/HashMap$Node;" .null) ∧ (Fld Z h m2 "java/util/HashMap" "size" "I" (.int (0 : Int32))) ∧ (Fld Z h m2 "java/util/HashMap" "modCount" "I" (.int (0 : Int32))) ∧ (Fld Z h m2 "java/util/HashMap" "threshold" "I" (.int (0 : Int32))) ∧ (Fld Z h m2 "java/util/LinkedHashMap" "putMode" "I" (.int (0 : Int32))) ∧ (Fld Z h m2 "java/util/LinkedHashMap" "head" "Ljava/util/LinkedHashMap$Entry;" .null) ∧ (Fld Z h m2 "java/util/LinkedHashMap" "tail" "Ljava/util/LinkedHashMap$Entry;" .null) ∧ (Exa Z h ns "java/lang/String") ∧ (Fld Z h ns "java/lang/String" "coder" "B" (.int (0 : Int32))) ∧ (Fld Z h ns "java/lang/String" "value" "[B" (.ref ts)) ∧ (Arv Z h ts kts .byte (5 : Int32) tv (.int (0 : Int32))) ∧ (Fld Z h ky "java/lang/String" "coder" "B" (.int (0 : Int32))) ∧ (Fld Z h ky "java/lang/String" "value" "[B" (.ref kb)) ∧ (Fld Z h ky "java/lang/String" "hash" "I" (.int x2)) ∧ (Fld Z h ky "java/lang/String" "hashIsZero" "Z" (.int y2)) ∧ (IB Z vm (["."] : List String))
set_option maxRecDepth 65536 in
set_option maxHeartbeats 40000000 in
theorem rm_af_n2 (l : Launch) (Z : State) (a0 : Array Value) (hw : ∀ d ∈ tables_1, d.before a0 Z = true) (ws : List Jvm.Cond) (G1 : Int32) (G6 : Addr) (th : Addr) (nm : Addr) (fd : Addr) (fs : Addr) (fb : Addr) (kfb : ClassId) (fv : List Value) (fdd : Value) (nb : Addr) (knb : ClassId) (nv_ : List Value) (ndd : Value) (sa : Addr) (sbb : Addr) (ksb : ClassId) (ky : Addr) (kb : Addr) (kkb : ClassId) (b0 : Int32) (hv : Int32) (hz : Int32) (mp : Addr) (h0 : Heap) (n0 : Nat) (Z0 : n0 ≤ h0.size) (O2 : Sta Z Z.heap "java/lang/String" "COMPACT_STRINGS" "Z" (.int G1)) (P5 : ¬ G1 = 0) (O6 : Sta Z Z.heap "java/util/ImmutableCollections" "EMPTY_LIST" "Ljava/util/ImmutableCollections$ListN;" (.ref G6)) (f3 : Exa Z h0 th "com/example/mandoline/mandoline/Variable") (f4 : Fld Z h0 th "com/example/mandoline/mandoline/Variable" "name" "Ljava/lang/String;" (.ref nm)) (f5 : Exa Z h0 fd "com/example/mandoline/mandoline/Place$Field") (f6 : Fld Z h0 fd "com/example/mandoline/mandoline/Place$Field" "name" "Ljava/lang/String;" (.ref fs)) (f7 : Exa Z h0 fs "java/lang/String") (f8 : Fld Z h0 fs "java/lang/String" "coder" "B" (.int (0 : Int32))) (f9 : Fld Z h0 fs "java/lang/String" "value" "[B" (.ref fb)) (f10 : Arv Z h0 fb kfb .byte (1 : Int32) fv fdd) (f11 : Exa Z h0 nm "java/lang/String") (f12 : Fld Z h0 nm "java/lang/String" "coder" "B" (.int (0 : Int32))) (f13 : Fld Z h0 nm "java/lang/String" "value" "[B" (.ref nb)) (f14 : Arv Z h0 nb knb .byte (3 : Int32) nv_ ndd) (f15 : Exa Z h0 sa "java/lang/String") (f16 : Fld Z h0 sa "java/lang/String" "coder" "B" (.int (0 : Int32))) (f17 : Fld Z h0 sa "java/lang/String" "value" "[B" (.ref sbb)) (f18 : Arv Z h0 sbb ksb .byte (1 : Int32) [(.int (46 : Int32))] (.int (0 : Int32))) (f19 : Fld Z h0 th "com/example/mandoline/mandoline/Variable" "fields" "Ljava/util/Map;" (.ref mp)) (f20 : Fld Z h0 fd "com/example/mandoline/mandoline/Place$Field" "key" "Ljava/lang/String;" (.ref ky)) (f21 : Exa Z h0 ky "java/lang/String") (f22 : Fld Z h0 ky "java/lang/String" "coder" "B" (.int (0 : Int32))) (f23 : Fld Z h0 ky "java/lang/String" "value" "[B" (.ref kb)) (f24 : Fld Z h0 ky "java/lang/String" "hash" "I" (.int hv)) (f25 : Fld Z h0 ky "java/lang/String" "hashIsZero" "Z" (.int hz)) (f26 : Arv Z h0 kb kkb .byte (1 : Int32) [(.int b0)] (.int (0 : Int32))) (f27 : Exa Z h0 mp "java/util/LinkedHashMap") (f28 : Fld Z h0 mp "java/util/HashMap" "table" "[Ljava/util/HashMap$Node;" .null) (f29 : Fld Z h0 mp "java/util/HashMap" "size" "I" (.int (0 : Int32))) (f30 : Fld Z h0 mp "java/util/HashMap" "modCount" "I" (.int (0 : Int32))) (f31 : Fld Z h0 mp "java/util/HashMap" "threshold" "I" (.int (0 : Int32))) (f32 : Fld Z h0 mp "java/util/LinkedHashMap" "putMode" "I" (.int (0 : Int32))) (f33 : Fld Z h0 mp "java/util/LinkedHashMap" "head" "Ljava/util/LinkedHashMap$Entry;" .null) (f34 : Fld Z h0 mp "java/util/LinkedHashMap" "tail" "Ljava/util/LinkedHashMap$Entry;" .null) (gm : n0 ≤ mp) (gk : n0 ≤ ky) (qs1 : fs ≠ ky) (qs2 : nm ≠ ky) (Old0 : OldL Z n0 h0) :
    MetW l Z y_57 c53 2 (some (.object "com/example/mandoline/mandoline/Variable")) ws (Rm 9 9 82 3076) #[(.ref th), (.ref fd)] h0 (fun vm => IB Z vm (["."] : List String) ∧ Lit (Z.setVm vm) "com/example/mandoline/mandoline/Variable" 131 sa) (Q_rm_af_n2 Z G1 G6 th nm fd fs fb kfb fv fdd nb knb nv_ ndd sa sbb ksb ky kb kkb b0 hv hz mp h0 n0) := by
 refine MetFree.of_bodySF (plainFor_of_name pn_com_example_mandoline_mandoline_Variable) hisR ?_
 intro p e s m args below meth c s₁ Bd hml0 hP hK
 obtain ⟨rfl, hZ, hh, hI, hLi0⟩ := hP
 have hx := Bd.exec
 have hby := Bd.bytes
 have hml : c.maxLocals = 2 := hml0
 have hown : s.vm.findClass "com/example/mandoline/mandoline/Variable" = some m.cls := findClass_of_methodNamed Bd.named
 have X0 : Stand p l e (Rm 9 9 82 3076) (s.setVm s.vm) m #[(.ref th), (.ref fd)] below meth c s₁ [] 0 0 := Stand.of_body Bd
 have e0 : s₁.heap = h0 := by rw [← hh, Bd.state]; rfl
 have N0 := Fr.nil n0
 have K00 : Keep h0 h0 [mp, ky] := Keep.refl _ _
 have hS0 : s.Since s.vm s.heap.size := (State.WarmedH.refl s).since _
 have hk0 : s.heap.size ≤ h0.size := by rw [hh]; exact Nat.le_refl _
 have hkeep : ∀ (b : Addr) (cl : Cell), Z.heap[b]? = some cl → s.heap[b]? = some cl := by rw [hh]; exact Old0.2.2
 show Rch p e below s₁ (entryFrame m #[(.ref th), (.ref fd)] 2) (FinW s (Q_rm_af_n2 Z G1 G6 th nm fd fs fb kfb fv fdd nb knb nv_ ndd sa sbb ksb ky kb kkb b0 hv hz mp h0 n0) 9 82)
 refine Rch.cast (ef_rm_af_n2 m G1 G6 th nm fd fs fb kfb fv fdd nb knb nv_ ndd sa sbb ksb ky kb kkb b0 hv hz mp) ?_
 show Rch p e below s₁ (mkF m 0 #[vR th, vR fd] []) _
 refine w_aloadN (pc' := 1) X0 hx hby d53_0 rfl rfl rfl ?_
 obtain ⟨T2419, X2419, e2419, st2419⟩ := getF X0 hx hZ hown (host := "") (Or.inl (wi hw 63 rfl)) Via.refl e0 f19 (g := (mkF m 1 #[vR th, vR fd] [(.ref th)])) rfl rfl (hb hby d53_1)
 refine Rch.st (fun _ k => st2419 _ k) ?_
 show Rch p e below T2419 (mkF m 4 #[vR th, vR fd] [(.ref mp)]) _
 refine w_aloadN (pc' := 5) X2419 hx hby d53_4 rfl rfl rfl ?_
 obtain ⟨cq2420, kq2420, q2420a, q2420b, q2420c⟩ := isOf hZ e2419 f5
 obtain ⟨_, _, ⟨T2420, L2420, k2420, n2420⟩, -, X2420, ⟨Lc2420, hQ2420, l2420, y2420, z2420⟩, st2420⟩ := X2419.virtualBack hx (y := y_40) (z := y_40) hown (mvT hZ (wi hw 102 rfl)) (mvT hZ (wi hw 103 rfl)) (notFace_of_selects (args := #[]) (mvT hZ (wi hw 105 rfl))) (mvT hZ (wi hw 105 rfl)) (mvT hZ (wi hw 104 rfl)) (by decide) (backOf (W := 1) (rm_ky l Z a0 hw [] fd ky h0 n0 Z0 f20) hZ (wi hw 106 rfl) (wi hw 83 rfl) (by decide) (by decide)) q2420a q2420c (g := (mkF m 5 #[vR th, vR fd] [(.ref fd), (.ref mp)])) rfl (by rw [hml]; rfl) (Steps.refl _) (argsL := []) (rest := [(.ref mp)]) (lenOf pd___Ljava_lang_String_ rfl) rfl (by show 2 * 0 + _ ≤ _; exact Nat.le_of_eq rfl) (hb hby d53_5) (fun _ _ => ⟨rfl, e2419, (by decide : 0 + 0 ≤ _), (by decide : 0 + 0 ≤ _)⟩)
 dsimp only [Pt.U, Pt.locs, Pt.cells, Pt.slots] at X2420 l2420 y2420 z2420 st2420 hQ2420
 subst l2420 y2420 z2420
 obtain ⟨rfl, NQ2420, K2420⟩ := hQ2420
 have N2421 := Fr.app N0 NQ2420
 refine Rch.st (fun _ k => st2420.trans k) ?_
 show Rch p e below T2420 (mkF m 8 #[vR th, vR fd] [(.ref ky), (.ref mp)]) _
 refine w_aloadN (pc' := 9) X2420 hx hby d53_8 rfl rfl rfl ?_
 refine w_aloadN (pc' := 10) X2420 hx hby d53_9 rfl rfl rfl ?_
 obtain ⟨T2422, h2422, cK2422, MD2422, X2422, e2422, E2422, F2422, st2422⟩ := own_mkLam (σ := own_sg) X2420 hx hZ Bd.named (wi hw 107 rfl) rfl own_hc0 (wi hw 110 rfl) K2420 (g := (mkF m 10 #[vR th, vR fd] [(.ref fd), (.ref th), (.ref ky), (.ref mp)])) rfl rfl (by rw [hml]; rfl) (hb hby d53_10) (va := (.ref th)) (vb := (.ref fd)) rfl ⟨rfl, rfl⟩ ⟨rfl, rfl⟩ (by show 2 * 0 + 4 + 3072 ≤ _; decide) (by decide) (by decide)
 obtain ⟨a2422, g2422⟩ : ∃ z, z = h0.size := ⟨_, rfl⟩
 rw [← g2422] at F2422 st2422
 have ne2427 : ky ≠ a2422 := by rw [g2422]; exact Nat.ne_of_lt f21.lt
 have ne2428 : mp ≠ a2422 := by rw [g2422]; exact Nat.ne_of_lt f27.lt
 have hk2436 := Nat.le_trans hk0 E2422.1
 have f2437 := f3.ext E2422
 have f2438 := f4.ext E2422
 have f2439 := f5.ext E2422
 have f2440 := f6.ext E2422
 have f2441 := f7.ext E2422
 have f2442 := f8.ext E2422
 have f2443 := f9.ext E2422
 have f2444 := f10.ext E2422
 have f2445 := f11.ext E2422
 have f2446 := f12.ext E2422
 have f2447 := f13.ext E2422
 have f2448 := f14.ext E2422
 have f2449 := f15.ext E2422
 have f2450 := f16.ext E2422
 have f2451 := f17.ext E2422
 have f2452 := f18.ext E2422
 have f2455 := f21.ext E2422
 have f2456 := f22.ext E2422
 have f2457 := f23.ext E2422
 have f2458 := f24.ext E2422
 have f2459 := f25.ext E2422
 have f2460 := f26.ext E2422
 have f2461 := f27.ext E2422
 have f2462 := f28.ext E2422
 have f2463 := f29.ext E2422
 have f2464 := f30.ext E2422
 have f2465 := f31.ext E2422
 have f2466 := f32.ext E2422
 have f2467 := f33.ext E2422
 have f2468 := f34.ext E2422
 have Old2469 := Old0.ext E2422
 have Z2470 := Nat.le_trans Z0 E2422.1
 have Kp2471 : Keep h0 h2422 [mp, ky] := K00.ext E2422
 refine Rch.st (fun _ k => st2422 _ k) ?_
 show Rch p e below T2422 (mkF m 15 #[vR th, vR fd] [(.ref a2422), (.ref ky), (.ref mp)]) _
 obtain ⟨cq2472, kq2472, q2472a, q2472b, q2472c⟩ := isOf hZ e2422 f2461
 obtain ⟨_, _, ⟨T2472, L2472, k2472, n2472⟩, -, X2472, hSx2472, hgx2472, ⟨Lc2472, hQ2472, l2472, y2472, z2472⟩, st2472⟩ := X2422.interfaceBackS hx (xi := y_58) (y := y_54) hown (mvT hZ (wi hw 111 rfl)) (mvT hZ (wi hw 112 rfl)) (mvT hZ (wi hw 113 rfl)) (mvT hZ (wi hw 114 rfl)) (mvT hZ (wi hw 115 rfl)) (mvT hZ (wi hw 116 rfl)) (mvT hZ (wi hw 117 rfl)) (mvT hZ (wi hw 118 rfl)) (by decide) (backOfV (PV := fun vm => IB Z vm (["."] : List String) ∧ Lit (Z.setVm vm) "com/example/mandoline/mandoline/Variable" 131 sa) (W := 0) (rm_ci_n2 l Z a0 hw [] G1 G6 th nm fd fs fb kfb fv fdd nb knb nv_ ndd sa sbb ksb ky kb kkb b0 hv hz mp a2422 cK2422 h2422 n0 Z2470 (O2) (P5) (O6) f2437 f2438 f2439 f2440 f2441 f2442 f2443 f2444 f2445 f2446 f2447 f2448 f2449 f2450 f2451 f2452 f2455 f2456 f2457 f2458 f2459 f2460 f2461 f2462 f2463 f2464 f2465 f2466 f2467 f2468 F2422 (MD2422) (gm) (gk) ((Ne.symm ne2427)) ((Ne.symm ne2428)) (qs1) (qs2) Old2469) hZ (fun vm hW => ⟨own_ib (s := s.setVm s.vm) hI hW, own_lit (s := s) (vm := s.vm) hLi0 hW.wide⟩) (wi hw 119 rfl) (wi hw 47 rfl) (by decide) (by decide)) q2472a q2472b q2472c (g := (mkF m 15 #[vR th, vR fd] [(.ref a2422), (.ref ky), (.ref mp)])) rfl (by rw [hml]; rfl) (Steps.refl _) (argsL := [(.ref ky), (.ref a2422)]) (rest := []) (lenOf pd__Ljava_lang_Object_Ljava_util_function_Function__Ljava_lang_Object_ rfl) rfl (by show 2 * 0 + _ ≤ _; exact Nat.le_of_eq rfl) (hb hby d53_15) (fun _ _ => ⟨rfl, e2422, (by decide : 1 + 8 ≤ _), (by decide : 2 + 80 ≤ _)⟩)
 dsimp only [Pt.U, Pt.locs, Pt.cells, Pt.slots] at X2472 l2472 y2472 z2472 st2472 hQ2472 hSx2472 hgx2472
 subst l2472 y2472 z2472
 have hS2472 := foldS hS0 (by rw [e2422]; exact hk2436) hSx2472 hgx2472
 have hk2472 : T2472.heap.size ≤ T2472.heap.size := Nat.le_refl _
 have hZ2472 : Z.Warmed39 (s.setVm T2472.vm).vm := State.Warmed39.trans (t := s.setVm s.vm) hZ hSx2472.1
 have hown2472 : (s.setVm T2472.vm).vm.findClass "com/example/mandoline/mandoline/Variable" = some m.cls := by rw [show (s.setVm T2472.vm).vm = T2472.vm from rfl, hSx2472.1.alike.findClass]; exact hown
 have X2472w : Stand p l e (Rm 9 9 82 3076) (s.setVm T2472.vm) m _ below meth c T2472 _ _ _ := X2472
 obtain ⟨nv_2472, m2_2472, ns_2472, ts_2472, kts_2472, tv_2472, x2_2472, y2_2472, rfl, NQ2472, K2472, pq2472_0, pq2472_1, pq2472_2, pq2472_3, fq2472_0, fq2472_1, fq2472_2, fq2472_3, fq2472_4, fq2472_5, fq2472_6, fq2472_7, fq2472_8, fq2472_9, fq2472_10, fq2472_11, fq2472_12, fq2472_13, fq2472_14, fq2472_15, fq2472_16, fq2472_17, fq2472_18, fq2472_19, IQ2472⟩ := hQ2472
 have N2473 := Fr.app N2421 NQ2472
 have Kp2561 : Keep h0 T2472.heap [mp, ky] := Kp2471.trans K2472 (allS (Or.inl (List.mem_of_getElem? (i := 0) rfl)) (allS (Or.inl (List.mem_of_getElem? (i := 1) rfl)) all0))
 refine Rch.st (fun _ k => st2472.trans k) ?_
 show Rch p e below T2472 (mkF m 20 #[vR th, vR fd] [(.ref nv_2472)]) _
 obtain ⟨T2563, X2563, e2563, st2563⟩ := castY X2472w hx hZ2472 hown2472 (wi hw 162 rfl) (rfl : T2472.heap = T2472.heap) (Ins.self fq2472_0) (g := (mkF m 20 #[vR th, vR fd] [(.ref nv_2472)])) rfl rfl (hb hby d53_20)
 refine Rch.st (fun _ k => st2563 _ k) ?_
 show Rch p e below T2563 (mkF m 23 #[vR th, vR fd] [(.ref nv_2472)]) _
 exact Rch.retVW X2563 hx hS2472 (by rw [e2563]; exact hk2472) Bd.returns rfl (Or.inr (Or.inr (Or.inr (Or.inr ⟨rfl, rfl, rfl⟩)))) (hb hby d53_23) (by rw [e2563]; exact ⟨nv_2472, m2_2472, ns_2472, ts_2472, kts_2472, tv_2472, x2_2472, y2_2472, rfl, N2473, Kp2561, (Nat.le_trans Kp2471.1 pq2472_0), (Nat.le_trans Kp2471.1 pq2472_1), (Nat.le_trans Kp2471.1 pq2472_2), (Nat.le_trans Kp2471.1 pq2472_3), fq2472_0, fq2472_1, fq2472_2, fq2472_3, fq2472_4, fq2472_5, fq2472_6, fq2472_7, fq2472_8, fq2472_9, fq2472_10, fq2472_11, fq2472_12, fq2472_13, fq2472_14, fq2472_15, fq2472_16, fq2472_17, fq2472_18, fq2472_19, own_ib_mono (own_ib (s := s.setVm T2472.vm) IQ2472 X2563.warmed) (by decide)⟩) (by decide) (by decide)

abbrev c54 : ByteArray := prog_50_method_1_code
theorem d54_0 : decode c54 0 = .ok (.aload_n 0, 1) := by decide +kernel
theorem d54_1 : decode c54 1 = .ok (.aload_n 1, 1) := by decide +kernel
theorem d54_2 : decode c54 2 = .ok (.aload_n 2, 1) := by decide +kernel
theorem d54_3 : decode c54 3 = .ok (.aconst_null, 1) := by decide +kernel
theorem d54_4 : decode c54 4 = .ok (.aconst_null, 1) := by decide +kernel
theorem d54_5 : decode c54 5 = .ok (.invokespecial 1, 3) := by decide +kernel
theorem d54_8 : decode c54 8 = .ok (.return_, 1) := by decide +kernel
theorem ef_rm_v2 (m : MethodId) (G6 : Addr) (va : Addr) (nm : Addr) (ds : Value) (hds : ds.isRef = true) : entryFrame m #[(.ref va), (.ref nm), ds] 3 = mkF m 0 #[vR va, vR nm, .val ds] [] := by rcases ref_cases hds with rfl | ⟨_, rfl⟩ <;> first | (simp [entryFrame, mkF, argsToLocals, Value.category, maxLocals]; done) | rfl
def Q_rm_v2 (Z : State) (G6 : Addr) (va : Addr) (nm : Addr) (ds : Value) (h0 : Heap) (n0 : Nat) (v : Option Value) (h : Heap) (L : List Loc) : Prop := ∃ (m2 : Addr), (v = none) ∧ (Fr n0 L) ∧ (Keep h0 h [va]) ∧ (h0.size ≤ m2) ∧ (Fld Z h va "com/example/mandoline/mandoline/Variable" "fields" "Ljava/util/Map;" (.ref m2)) ∧ (Fld Z h va "com/example/mandoline/mandoline/Variable" "name" "Ljava/lang/String;" (.ref nm)) ∧ (Fld Z h va "com/example/mandoline/mandoline/Variable" "function" "Ljava/lang/String;" .null) ∧ (Fld Z h va "com/example/mandoline/mandoline/Variable" "containing" "Lcom/example/mandoline/mandoline/Variable;" .null) ∧ (Fld Z h va "com/example/mandoline/mandoline/Variable" "declaringStatement" "Lcom/example/mandoline/mandoline/ClangNode;" ds) ∧ (Exa Z h m2 "java/util/LinkedHashMap") ∧ (Fld Z h m2 "java/util/HashMap" "table" "[Ljava/util/HashMap$Node;" .null) ∧ (Fld Z h m2 "java/util/HashMap" "size" "I" (.int (0 : Int32))) ∧ (Fld Z h m2 "java/util/HashMap" "modCount" "I" (.int (0 : Int32))) ∧ (Fld Z h m2 "java/util/HashMap" "threshold" "I" (.int (0 : Int32))) ∧ (Fld Z h m2 "java/util/LinkedHashMap" "putMode" "I" (.int (0 : Int32))) ∧ (Fld Z h m2 "java/util/LinkedHashMap" "head" "Ljava/util/LinkedHashMap$Entry;" .null) ∧ (Fld Z h m2 "java/util/LinkedHashMap" "tail" "Ljava/util/LinkedHashMap$Entry;" .null)
set_option maxRecDepth 65536 in
set_option maxHeartbeats 40000000 in
theorem rm_v2 (l : Launch) (Z : State) (a0 : Array Value) (hw : ∀ d ∈ tables_1, d.before a0 Z = true) (ws : List Jvm.Cond) (G6 : Addr) (va : Addr) (nm : Addr) (ds : Value) (h0 : Heap) (n0 : Nat) (Z0 : n0 ≤ h0.size) (O6 : Sta Z Z.heap "java/util/ImmutableCollections" "EMPTY_LIST" "Ljava/util/ImmutableCollections$ListN;" (.ref G6)) (f1 : Exa Z h0 va "com/example/mandoline/mandoline/Variable") (f2 : Fld Z h0 va "com/example/mandoline/mandoline/Variable" "fields" "Ljava/util/Map;" .null) (f3 : Fld Z h0 va "com/example/mandoline/mandoline/Variable" "declarationNodes" "Ljava/util/List;" .null) (f4 : Fld Z h0 va "com/example/mandoline/mandoline/Variable" "name" "Ljava/lang/String;" .null) (f5 : Fld Z h0 va "com/example/mandoline/mandoline/Variable" "declaringStatement" "Lcom/example/mandoline/mandoline/ClangNode;" .null) (f6 : Fld Z h0 va "com/example/mandoline/mandoline/Variable" "function" "Ljava/lang/String;" .null) (f7 : Fld Z h0 va "com/example/mandoline/mandoline/Variable" "containing" "Lcom/example/mandoline/mandoline/Variable;" .null) (gv : n0 ≤ va) (hds : ds.isRef = true) (Old0 : OldL Z n0 h0) :
    MetN l Z y_59 c54 3 none ws (Rm 5 1 12 66) #[(.ref va), (.ref nm), ds] h0 (Q_rm_v2 Z G6 va nm ds h0 n0) := by
 refine MetFree.of_bodySF (plainFor_of_name pn_com_example_mandoline_mandoline_Variable) hisR ?_
 intro p e s m args below meth c s₁ Bd hml0 hP hK
 obtain ⟨rfl, hZ, hh⟩ := hP
 have hx := Bd.exec
 have hby := Bd.bytes
 have hml : c.maxLocals = 3 := hml0
 have hown : s.vm.findClass "com/example/mandoline/mandoline/Variable" = some m.cls := findClass_of_methodNamed Bd.named
 have X0 : Stand p l e (Rm 5 1 12 66) s m #[(.ref va), (.ref nm), ds] below meth c s₁ [] 0 0 := Stand.of_body Bd
 have e0 : s₁.heap = h0 := by rw [← hh, Bd.state]; rfl
 have N0 := Fr.nil n0
 have K00 : Keep h0 h0 [va] := Keep.refl _ _
 show Rch p e below s₁ (entryFrame m #[(.ref va), (.ref nm), ds] 3) (FinP s (Q_rm_v2 Z G6 va nm ds h0 n0) 1 12)
 refine Rch.cast (ef_rm_v2 m G6 va nm ds hds) ?_
 show Rch p e below s₁ (mkF m 0 #[vR va, vR nm, .val ds] []) _
 refine w_aloadN (pc' := 1) X0 hx hby d54_0 rfl rfl rfl ?_
 refine w_aloadN (pc' := 2) X0 hx hby d54_1 rfl rfl rfl ?_
 refine w_aloadN (pc' := 3) X0 hx hby d54_2 rfl hds rfl ?_
 refine w_aconstNull (pc' := 4) X0 hx hby d54_3 rfl ?_
 refine w_aconstNull (pc' := 5) X0 hx hby d54_4 rfl ?_
 obtain ⟨_, _, ⟨T2564, L2564, k2564, n2564⟩, -, X2564, ⟨Lc2564, hQ2564, l2564, y2564, z2564⟩, st2564⟩ := X0.specialBack hx (y := y_37) rfl hown (mvT hZ (wi hw 33 rfl)) (mvT hZ (wi hw 34 rfl)) (mvT hZ (wi hw 35 rfl)) (by decide) (backOf (W := 0) (rm_v4 l Z a0 hw [] G6 va nm ds .null .null h0 n0 Z0 (O6) f1 f2 f3 f4 f5 f6 f7 (gv) (hds) (rfl) (rfl) Old0) hZ (wi hw 35 rfl) (wi hw 3 rfl) (by decide) (by decide)) (g := (mkF m 5 #[vR va, vR nm, .val ds] [.null, .null, ds, (.ref nm), (.ref va)])) rfl (by rw [hml]; rfl) (Steps.refl _) (a := va) (argsL := [(.ref nm), ds, .null, .null]) (rest := []) (lenOf pd__Ljava_lang_String_Lcom_example_mandoline_mandoline_ClangNode_Ljava_lang_String_Lcom_example_mandoline_mandoline_Variable__V rfl) rfl (by show 2 * 0 + _ ≤ _; exact Nat.le_of_eq rfl) (hb hby d54_5) (fun _ _ => ⟨rfl, e0, (by decide : 0 + 1 ≤ _), (by decide : 0 + 12 ≤ _)⟩)
 dsimp only [Pt.U, Pt.locs, Pt.cells, Pt.slots] at X2564 l2564 y2564 z2564 st2564 hQ2564
 subst l2564 y2564 z2564
 obtain ⟨m2_2564, rfl, NQ2564, K2564, pq2564_0, fq2564_0, fq2564_1, fq2564_2, fq2564_3, fq2564_4, fq2564_5, fq2564_6, fq2564_7, fq2564_8, fq2564_9, fq2564_10, fq2564_11, fq2564_12⟩ := hQ2564
 have N2565 := Fr.app N0 NQ2564
 have Kp2570 : Keep h0 T2564.heap [va] := K00.trans K2564 (allS (Or.inl (List.mem_of_getElem? (i := 0) rfl)) all0)
 refine Rch.st (fun _ k => st2564.trans k) ?_
 show Rch p e below T2564 (mkF m 8 #[vR va, vR nm, .val ds] []) _
 exact Rch.ret0 X2564 hx Bd.returns (hb hby d54_8) (by rw [(rfl : T2564.heap = T2564.heap)]; exact ⟨m2_2564, rfl, N2565, Kp2570, (Nat.le_trans K00.1 pq2564_0), fq2564_0, fq2564_1, fq2564_2, fq2564_3, fq2564_4, fq2564_5, fq2564_6, fq2564_7, fq2564_8, fq2564_9, fq2564_10, fq2564_11, fq2564_12⟩) (by decide) (by decide)

abbrev c55 : ByteArray := prog_50_method_5_code
theorem d55_0 : decode c55 0 = .ok (.aload_n 0, 1) := by decide +kernel
theorem d55_1 : decode c55 1 = .ok (.getfield 40, 3) := by decide +kernel
theorem d55_4 : decode c55 4 = .ok (.ifnull 13, 3) := by decide +kernel
theorem d55_7 : decode c55 7 = .ok (.aload_n 0, 1) := by decide +kernel
theorem d55_8 : decode c55 8 = .ok (.getfield 40, 3) := by decide +kernel
theorem d55_11 : decode c55 11 = .ok (.invokevirtual 44, 3) := by decide +kernel
theorem d55_14 : decode c55 14 = .ok (.goto 7, 3) := by decide +kernel
theorem d55_17 : decode c55 17 = .ok (.aload_n 0, 1) := by decide +kernel
theorem d55_18 : decode c55 18 = .ok (.getfield 33, 3) := by decide +kernel
theorem d55_21 : decode c55 21 = .ok (.areturn, 1) := by decide +kernel
theorem ef_rm_ds0 (m : MethodId) (v0 : Addr) (fv : Value)  : entryFrame m #[(.ref v0)] 1 = mkF m 0 #[vR v0] [] := by  first | (simp [entryFrame, mkF, argsToLocals, Value.category, maxLocals]; done) | rfl
def Q_rm_ds0 (Z : State) (v0 : Addr) (fv : Value) (h0 : Heap) (n0 : Nat) (v : Option Value) (h : Heap) (L : List Loc) : Prop := (v = some fv) ∧ (Fr n0 L) ∧ (h = h0)
set_option maxRecDepth 65536 in
set_option maxHeartbeats 40000000 in
theorem rm_ds0 (l : Launch) (Z : State) (a0 : Array Value) (hw : ∀ d ∈ tables_1, d.before a0 Z = true) (ws : List Jvm.Cond) (v0 : Addr) (fv : Value) (h0 : Heap) (n0 : Nat) (Z0 : n0 ≤ h0.size) (f0 : Exa Z h0 v0 "com/example/mandoline/mandoline/Variable") (f1 : Fld Z h0 v0 "com/example/mandoline/mandoline/Variable" "containing" "Lcom/example/mandoline/mandoline/Variable;" .null) (f2 : Fld Z h0 v0 "com/example/mandoline/mandoline/Variable" "declaringStatement" "Lcom/example/mandoline/mandoline/ClangNode;" fv) (hfv : fv.isRef = true) :
    MetN l Z y_60 c55 1 (some (.object "com/example/mandoline/mandoline/ClangNode")) ws (Rm 0 0 0 0) #[(.ref v0)] h0 (Q_rm_ds0 Z v0 fv h0 n0) := by
 refine MetFree.of_bodySF (plainFor_of_name pn_com_example_mandoline_mandoline_Variable) hisR ?_
 intro p e s m args below meth c s₁ Bd hml0 hP hK
 obtain ⟨rfl, hZ, hh⟩ := hP
 have hx := Bd.exec
 have hby := Bd.bytes
 have hml : c.maxLocals = 1 := hml0
 have hown : s.vm.findClass "com/example/mandoline/mandoline/Variable" = some m.cls := findClass_of_methodNamed Bd.named
 have X0 : Stand p l e (Rm 0 0 0 0) s m #[(.ref v0)] below meth c s₁ [] 0 0 := Stand.of_body Bd
 have e0 : s₁.heap = h0 := by rw [← hh, Bd.state]; rfl
 have N0 := Fr.nil n0
 have K00 : Keep h0 h0 [] := Keep.refl _ _
 show Rch p e below s₁ (entryFrame m #[(.ref v0)] 1) (FinP s (Q_rm_ds0 Z v0 fv h0 n0) 0 0)
 refine Rch.cast (ef_rm_ds0 m v0 fv) ?_
 show Rch p e below s₁ (mkF m 0 #[vR v0] []) _
 refine w_aloadN (pc' := 1) X0 hx hby d55_0 rfl rfl rfl ?_
 obtain ⟨T2572, X2572, e2572, st2572⟩ := getF X0 hx hZ hown (host := "") (Or.inl (wi hw 79 rfl)) Via.refl e0 f1 (g := (mkF m 1 #[vR v0] [(.ref v0)])) rfl rfl (hb hby d55_1)
 refine Rch.st (fun _ k => st2572 _ k) ?_
 show Rch p e below T2572 (mkF m 4 #[vR v0] [.null]) _
 refine w_nullYes (pc' := 17) X2572 hx hby d55_4 (rfl) (by decide) ?_
 refine w_aloadN (pc' := 18) X2572 hx hby d55_17 rfl rfl rfl ?_
 obtain ⟨T2573, X2573, e2573, st2573⟩ := getF X2572 hx hZ hown (host := "") (Or.inl (wi hw 75 rfl)) Via.refl e2572 f2 (g := (mkF m 18 #[vR v0] [(.ref v0)])) rfl rfl (hb hby d55_18)
 refine Rch.st (fun _ k => st2573 _ k) ?_
 show Rch p e below T2573 (mkF m 21 #[vR v0] [fv]) _
 exact Rch.retV X2573 hx Bd.returns (Rnar hfv) (Or.inr (Or.inr (Or.inr (Or.inr ⟨rfl, rfl, hfv⟩)))) (hb hby d55_21) (by rw [e2573]; exact ⟨rfl, N0, rfl⟩) (by decide) (by decide)

theorem ef_rm_ds1 (m : MethodId) (v0 : Addr) (v1 : Addr) (fv : Value)  : entryFrame m #[(.ref v0)] 1 = mkF m 0 #[vR v0] [] := by  first | (simp [entryFrame, mkF, argsToLocals, Value.category, maxLocals]; done) | rfl
def Q_rm_ds1 (Z : State) (v0 : Addr) (v1 : Addr) (fv : Value) (h0 : Heap) (n0 : Nat) (v : Option Value) (h : Heap) (L : List Loc) : Prop := (v = some fv) ∧ (Fr n0 L) ∧ (h = h0)
theorem pd___Lcom_example_mandoline_mandoline_ClangNode_ : parseMethodDescriptor "()Lcom/example/mandoline/mandoline/ClangNode;" = some ⟨[], (some (.object "com/example/mandoline/mandoline/ClangNode"))⟩ := by decide +kernel
set_option maxRecDepth 65536 in
set_option maxHeartbeats 40000000 in
theorem rm_ds1 (l : Launch) (Z : State) (a0 : Array Value) (hw : ∀ d ∈ tables_1, d.before a0 Z = true) (ws : List Jvm.Cond) (v0 : Addr) (v1 : Addr) (fv : Value) (h0 : Heap) (n0 : Nat) (Z0 : n0 ≤ h0.size) (f0 : Exa Z h0 v0 "com/example/mandoline/mandoline/Variable") (f1 : Fld Z h0 v0 "com/example/mandoline/mandoline/Variable" "containing" "Lcom/example/mandoline/mandoline/Variable;" (.ref v1)) (f2 : Exa Z h0 v1 "com/example/mandoline/mandoline/Variable") (f3 : Fld Z h0 v1 "com/example/mandoline/mandoline/Variable" "containing" "Lcom/example/mandoline/mandoline/Variable;" .null) (f4 : Fld Z h0 v1 "com/example/mandoline/mandoline/Variable" "declaringStatement" "Lcom/example/mandoline/mandoline/ClangNode;" fv) (hfv : fv.isRef = true) :
    MetN l Z y_60 c55 1 (some (.object "com/example/mandoline/mandoline/ClangNode")) ws (Rm 1 0 0 12) #[(.ref v0)] h0 (Q_rm_ds1 Z v0 v1 fv h0 n0) := by
 refine MetFree.of_bodySF (plainFor_of_name pn_com_example_mandoline_mandoline_Variable) hisR ?_
 intro p e s m args below meth c s₁ Bd hml0 hP hK
 obtain ⟨rfl, hZ, hh⟩ := hP
 have hx := Bd.exec
 have hby := Bd.bytes
 have hml : c.maxLocals = 1 := hml0
 have hown : s.vm.findClass "com/example/mandoline/mandoline/Variable" = some m.cls := findClass_of_methodNamed Bd.named
 have X0 : Stand p l e (Rm 1 0 0 12) s m #[(.ref v0)] below meth c s₁ [] 0 0 := Stand.of_body Bd
 have e0 : s₁.heap = h0 := by rw [← hh, Bd.state]; rfl
 have N0 := Fr.nil n0
 have K00 : Keep h0 h0 [] := Keep.refl _ _
 show Rch p e below s₁ (entryFrame m #[(.ref v0)] 1) (FinP s (Q_rm_ds1 Z v0 v1 fv h0 n0) 0 0)
 refine Rch.cast (ef_rm_ds1 m v0 v1 fv) ?_
 show Rch p e below s₁ (mkF m 0 #[vR v0] []) _
 refine w_aloadN (pc' := 1) X0 hx hby d55_0 rfl rfl rfl ?_
 obtain ⟨T2574, X2574, e2574, st2574⟩ := getF X0 hx hZ hown (host := "") (Or.inl (wi hw 79 rfl)) Via.refl e0 f1 (g := (mkF m 1 #[vR v0] [(.ref v0)])) rfl rfl (hb hby d55_1)
 refine Rch.st (fun _ k => st2574 _ k) ?_
 show Rch p e below T2574 (mkF m 4 #[vR v0] [(.ref v1)]) _
 refine w_nullNo (pc' := 7) X2574 hx hby d55_4 rfl (fun q => nomatch q) rfl ?_
 refine w_aloadN (pc' := 8) X2574 hx hby d55_7 rfl rfl rfl ?_
 obtain ⟨T2575, X2575, e2575, st2575⟩ := getF X2574 hx hZ hown (host := "") (Or.inl (wi hw 79 rfl)) Via.refl e2574 f1 (g := (mkF m 8 #[vR v0] [(.ref v0)])) rfl rfl (hb hby d55_8)
 refine Rch.st (fun _ k => st2575 _ k) ?_
 show Rch p e below T2575 (mkF m 11 #[vR v0] [(.ref v1)]) _
 obtain ⟨cq2576, kq2576, q2576a, q2576b, q2576c⟩ := isOf hZ e2575 f2
 obtain ⟨_, _, ⟨T2576, L2576, k2576, n2576⟩, -, X2576, ⟨Lc2576, hQ2576, l2576, y2576, z2576⟩, st2576⟩ := X2575.virtualBack hx (y := y_60) (z := y_60) hown (mvT hZ (wi hw 339 rfl)) (mvT hZ (wi hw 335 rfl)) (notFace_of_selects (args := #[]) (mvT hZ (wi hw 337 rfl))) (mvT hZ (wi hw 337 rfl)) (mvT hZ (wi hw 336 rfl)) (by decide) (backOf (W := 0) (rm_ds0 l Z a0 hw [] v1 fv h0 n0 Z0 f2 f3 f4 (hfv)) hZ (wi hw 338 rfl) (wi hw 3 rfl) (by decide) (by decide)) q2576a q2576c (g := (mkF m 11 #[vR v0] [(.ref v1)])) rfl (by rw [hml]; rfl) (Steps.refl _) (argsL := []) (rest := []) (lenOf pd___Lcom_example_mandoline_mandoline_ClangNode_ rfl) rfl (by show 2 * 0 + _ ≤ _; exact Nat.le_of_eq rfl) (hb hby d55_11) (fun _ _ => ⟨rfl, e2575, (by decide : 0 + 0 ≤ _), (by decide : 0 + 0 ≤ _)⟩)
 dsimp only [Pt.U, Pt.locs, Pt.cells, Pt.slots] at X2576 l2576 y2576 z2576 st2576 hQ2576
 subst l2576 y2576 z2576
 obtain ⟨rfl, NQ2576, K2576⟩ := hQ2576
 have N2577 := Fr.app N0 NQ2576
 refine Rch.st (fun _ k => st2576.trans k) ?_
 show Rch p e below T2576 (mkF m 14 #[vR v0] [fv]) _
 refine w_goto (pc' := 21) X2576 hx hby d55_14 (by decide) ?_
 exact Rch.retV X2576 hx Bd.returns (Rnar hfv) (Or.inr (Or.inr (Or.inr (Or.inr ⟨rfl, rfl, hfv⟩)))) (hb hby d55_21) (by rw [K2576]; exact ⟨rfl, N2577, rfl⟩) (by decide) (by decide)

theorem ef_rm_ds2 (m : MethodId) (v0 : Addr) (v1 : Addr) (v2 : Addr) (fv : Value)  : entryFrame m #[(.ref v0)] 1 = mkF m 0 #[vR v0] [] := by  first | (simp [entryFrame, mkF, argsToLocals, Value.category, maxLocals]; done) | rfl
def Q_rm_ds2 (Z : State) (v0 : Addr) (v1 : Addr) (v2 : Addr) (fv : Value) (h0 : Heap) (n0 : Nat) (v : Option Value) (h : Heap) (L : List Loc) : Prop := (v = some fv) ∧ (Fr n0 L) ∧ (h = h0)
set_option maxRecDepth 65536 in
set_option maxHeartbeats 40000000 in
theorem rm_ds2 (l : Launch) (Z : State) (a0 : Array Value) (hw : ∀ d ∈ tables_1, d.before a0 Z = true) (ws : List Jvm.Cond) (v0 : Addr) (v1 : Addr) (v2 : Addr) (fv : Value) (h0 : Heap) (n0 : Nat) (Z0 : n0 ≤ h0.size) (f0 : Exa Z h0 v0 "com/example/mandoline/mandoline/Variable") (f1 : Fld Z h0 v0 "com/example/mandoline/mandoline/Variable" "containing" "Lcom/example/mandoline/mandoline/Variable;" (.ref v1)) (f2 : Exa Z h0 v1 "com/example/mandoline/mandoline/Variable") (f3 : Fld Z h0 v1 "com/example/mandoline/mandoline/Variable" "containing" "Lcom/example/mandoline/mandoline/Variable;" (.ref v2)) (f4 : Exa Z h0 v2 "com/example/mandoline/mandoline/Variable") (f5 : Fld Z h0 v2 "com/example/mandoline/mandoline/Variable" "containing" "Lcom/example/mandoline/mandoline/Variable;" .null) (f6 : Fld Z h0 v2 "com/example/mandoline/mandoline/Variable" "declaringStatement" "Lcom/example/mandoline/mandoline/ClangNode;" fv) (hfv : fv.isRef = true) :
    MetN l Z y_60 c55 1 (some (.object "com/example/mandoline/mandoline/ClangNode")) ws (Rm 2 0 0 24) #[(.ref v0)] h0 (Q_rm_ds2 Z v0 v1 v2 fv h0 n0) := by
 refine MetFree.of_bodySF (plainFor_of_name pn_com_example_mandoline_mandoline_Variable) hisR ?_
 intro p e s m args below meth c s₁ Bd hml0 hP hK
 obtain ⟨rfl, hZ, hh⟩ := hP
 have hx := Bd.exec
 have hby := Bd.bytes
 have hml : c.maxLocals = 1 := hml0
 have hown : s.vm.findClass "com/example/mandoline/mandoline/Variable" = some m.cls := findClass_of_methodNamed Bd.named
 have X0 : Stand p l e (Rm 2 0 0 24) s m #[(.ref v0)] below meth c s₁ [] 0 0 := Stand.of_body Bd
 have e0 : s₁.heap = h0 := by rw [← hh, Bd.state]; rfl
 have N0 := Fr.nil n0
 have K00 : Keep h0 h0 [] := Keep.refl _ _
 show Rch p e below s₁ (entryFrame m #[(.ref v0)] 1) (FinP s (Q_rm_ds2 Z v0 v1 v2 fv h0 n0) 0 0)
 refine Rch.cast (ef_rm_ds2 m v0 v1 v2 fv) ?_
 show Rch p e below s₁ (mkF m 0 #[vR v0] []) _
 refine w_aloadN (pc' := 1) X0 hx hby d55_0 rfl rfl rfl ?_
 obtain ⟨T2578, X2578, e2578, st2578⟩ := getF X0 hx hZ hown (host := "") (Or.inl (wi hw 79 rfl)) Via.refl e0 f1 (g := (mkF m 1 #[vR v0] [(.ref v0)])) rfl rfl (hb hby d55_1)
 refine Rch.st (fun _ k => st2578 _ k) ?_
 show Rch p e below T2578 (mkF m 4 #[vR v0] [(.ref v1)]) _
 refine w_nullNo (pc' := 7) X2578 hx hby d55_4 rfl (fun q => nomatch q) rfl ?_
 refine w_aloadN (pc' := 8) X2578 hx hby d55_7 rfl rfl rfl ?_
 obtain ⟨T2579, X2579, e2579, st2579⟩ := getF X2578 hx hZ hown (host := "") (Or.inl (wi hw 79 rfl)) Via.refl e2578 f1 (g := (mkF m 8 #[vR v0] [(.ref v0)])) rfl rfl (hb hby d55_8)
 refine Rch.st (fun _ k => st2579 _ k) ?_
 show Rch p e below T2579 (mkF m 11 #[vR v0] [(.ref v1)]) _
 obtain ⟨cq2580, kq2580, q2580a, q2580b, q2580c⟩ := isOf hZ e2579 f2
 obtain ⟨_, _, ⟨T2580, L2580, k2580, n2580⟩, -, X2580, ⟨Lc2580, hQ2580, l2580, y2580, z2580⟩, st2580⟩ := X2579.virtualBack hx (y := y_60) (z := y_60) hown (mvT hZ (wi hw 339 rfl)) (mvT hZ (wi hw 335 rfl)) (notFace_of_selects (args := #[]) (mvT hZ (wi hw 337 rfl))) (mvT hZ (wi hw 337 rfl)) (mvT hZ (wi hw 336 rfl)) (by decide) (backOf (W := 0) (rm_ds1 l Z a0 hw [] v1 v2 fv h0 n0 Z0 f2 f3 f4 f5 f6 (hfv)) hZ (wi hw 338 rfl) (wi hw 3 rfl) (by decide) (by decide)) q2580a q2580c (g := (mkF m 11 #[vR v0] [(.ref v1)])) rfl (by rw [hml]; rfl) (Steps.refl _) (argsL := []) (rest := []) (lenOf pd___Lcom_example_mandoline_mandoline_ClangNode_ rfl) rfl (by show 2 * 0 + _ ≤ _; exact Nat.le_of_eq rfl) (hb hby d55_11) (fun _ _ => ⟨rfl, e2579, (by decide : 0 + 0 ≤ _), (by decide : 0 + 0 ≤ _)⟩)
 dsimp only [Pt.U, Pt.locs, Pt.cells, Pt.slots] at X2580 l2580 y2580 z2580 st2580 hQ2580
 subst l2580 y2580 z2580
 obtain ⟨rfl, NQ2580, K2580⟩ := hQ2580
 have N2581 := Fr.app N0 NQ2580
 refine Rch.st (fun _ k => st2580.trans k) ?_
 show Rch p e below T2580 (mkF m 14 #[vR v0] [fv]) _
 refine w_goto (pc' := 21) X2580 hx hby d55_14 (by decide) ?_
 exact Rch.retV X2580 hx Bd.returns (Rnar hfv) (Or.inr (Or.inr (Or.inr (Or.inr ⟨rfl, rfl, hfv⟩)))) (hb hby d55_21) (by rw [K2580]; exact ⟨rfl, N2581, rfl⟩) (by decide) (by decide)

abbrev c56 : ByteArray := jdk_22_method_1_code
theorem d56_0 : decode c56 0 = .ok (.aload_n 0, 1) := by decide +kernel
theorem d56_1 : decode c56 1 = .ok (.invokespecial 1, 3) := by decide +kernel
theorem d56_4 : decode c56 4 = .ok (.return_, 1) := by decide +kernel
theorem pn_java_util_AbstractCollection : plainName "java/util/AbstractCollection" = true := by first | (simp [plainName, overriddenIn]; done) | decide +kernel
theorem ef_rm_AC (m : MethodId) (al : Addr)  : entryFrame m #[(.ref al)] 1 = mkF m 0 #[vR al] [] := by  first | (simp [entryFrame, mkF, argsToLocals, Value.category, maxLocals]; done) | rfl
def Q_rm_AC (Z : State) (al : Addr) (h0 : Heap) (n0 : Nat) (v : Option Value) (h : Heap) (L : List Loc) : Prop := (v = none) ∧ (Fr n0 L) ∧ (h = h0)
set_option maxRecDepth 65536 in
set_option maxHeartbeats 40000000 in
theorem rm_AC (l : Launch) (Z : State) (a0 : Array Value) (hw : ∀ d ∈ tables_1, d.before a0 Z = true) (ws : List Jvm.Cond) (al : Addr) (h0 : Heap) (n0 : Nat) (Z0 : n0 ≤ h0.size)  :
    MetN l Z y_61 c56 1 none ws (Rm 1 0 0 12) #[(.ref al)] h0 (Q_rm_AC Z al h0 n0) := by
 refine MetFree.of_bodySF (plainFor_of_name pn_java_util_AbstractCollection) hisR ?_
 intro p e s m args below meth c s₁ Bd hml0 hP hK
 obtain ⟨rfl, hZ, hh⟩ := hP
 have hx := Bd.exec
 have hby := Bd.bytes
 have hml : c.maxLocals = 1 := hml0
 have hown : s.vm.findClass "java/util/AbstractCollection" = some m.cls := findClass_of_methodNamed Bd.named
 have X0 : Stand p l e (Rm 1 0 0 12) s m #[(.ref al)] below meth c s₁ [] 0 0 := Stand.of_body Bd
 have e0 : s₁.heap = h0 := by rw [← hh, Bd.state]; rfl
 have N0 := Fr.nil n0
 have K00 : Keep h0 h0 [] := Keep.refl _ _
 show Rch p e below s₁ (entryFrame m #[(.ref al)] 1) (FinP s (Q_rm_AC Z al h0 n0) 0 0)
 refine Rch.cast (ef_rm_AC m al) ?_
 show Rch p e below s₁ (mkF m 0 #[vR al] []) _
 refine w_aloadN (pc' := 1) X0 hx hby d56_0 rfl rfl rfl ?_
 obtain ⟨T2582, X2582, e2582, st2582⟩ := initO X0 hx hZ hown (wi hw 379 rfl) (wi hw 24 rfl) (wi hw 25 rfl) e0 (g := (mkF m 1 #[vR al] [(.ref al)])) rfl (by rw [hml]; rfl) rfl (hb hby d56_1) (by decide) (W := 0) (by show 2 * 0 + _ ≤ _; exact Nat.le_of_eq rfl) (by decide)
 refine Rch.st (fun _ k => st2582 _ k) ?_
 show Rch p e below T2582 (mkF m 4 #[vR al] []) _
 exact Rch.ret0 X2582 hx Bd.returns (hb hby d56_4) (by rw [e2582]; exact ⟨rfl, N0, rfl⟩) (by decide) (by decide)

abbrev c57 : ByteArray := jdk_39_method_1_code
theorem d57_0 : decode c57 0 = .ok (.aload_n 0, 1) := by decide +kernel
theorem d57_1 : decode c57 1 = .ok (.invokespecial 1, 3) := by decide +kernel
theorem d57_4 : decode c57 4 = .ok (.aload_n 0, 1) := by decide +kernel
theorem d57_5 : decode c57 5 = .ok (.iconst 0, 1) := by decide +kernel
theorem d57_6 : decode c57 6 = .ok (.putfield 7, 3) := by decide +kernel
theorem d57_9 : decode c57 9 = .ok (.return_, 1) := by decide +kernel
theorem pn_java_util_AbstractList : plainName "java/util/AbstractList" = true := by first | (simp [plainName, overriddenIn]; done) | decide +kernel
theorem ef_rm_ALi (m : MethodId) (al : Addr)  : entryFrame m #[(.ref al)] 1 = mkF m 0 #[vR al] [] := by  first | (simp [entryFrame, mkF, argsToLocals, Value.category, maxLocals]; done) | rfl
def Q_rm_ALi (Z : State) (al : Addr) (h0 : Heap) (n0 : Nat) (v : Option Value) (h : Heap) (L : List Loc) : Prop := (v = none) ∧ (Fr n0 L) ∧ (Keep h0 h [al]) ∧ (Fld Z h al "java/util/ArrayList" "elementData" "[Ljava/lang/Object;" .null)
set_option maxRecDepth 65536 in
set_option maxHeartbeats 40000000 in
theorem rm_ALi (l : Launch) (Z : State) (a0 : Array Value) (hw : ∀ d ∈ tables_1, d.before a0 Z = true) (ws : List Jvm.Cond) (al : Addr) (h0 : Heap) (n0 : Nat) (Z0 : n0 ≤ h0.size) (f0 : Exa Z h0 al "java/util/ArrayList") (f1 : Fld Z h0 al "java/util/ArrayList" "elementData" "[Ljava/lang/Object;" .null) (f2 : Fld Z h0 al "java/util/AbstractList" "modCount" "I" (.int (0 : Int32))) (ga : n0 ≤ al) :
    MetN l Z y_62 c57 1 none ws (Rm 2 0 0 24) #[(.ref al)] h0 (Q_rm_ALi Z al h0 n0) := by
 refine MetFree.of_bodySF (plainFor_of_name pn_java_util_AbstractList) hisR ?_
 intro p e s m args below meth c s₁ Bd hml0 hP hK
 obtain ⟨rfl, hZ, hh⟩ := hP
 have hx := Bd.exec
 have hby := Bd.bytes
 have hml : c.maxLocals = 1 := hml0
 have hown : s.vm.findClass "java/util/AbstractList" = some m.cls := findClass_of_methodNamed Bd.named
 have X0 : Stand p l e (Rm 2 0 0 24) s m #[(.ref al)] below meth c s₁ [] 0 0 := Stand.of_body Bd
 have e0 : s₁.heap = h0 := by rw [← hh, Bd.state]; rfl
 have N0 := Fr.nil n0
 have K00 : Keep h0 h0 [al] := Keep.refl _ _
 show Rch p e below s₁ (entryFrame m #[(.ref al)] 1) (FinP s (Q_rm_ALi Z al h0 n0) 0 0)
 refine Rch.cast (ef_rm_ALi m al) ?_
 show Rch p e below s₁ (mkF m 0 #[vR al] []) _
 refine w_aloadN (pc' := 1) X0 hx hby d57_0 rfl rfl rfl ?_
 obtain ⟨_, _, ⟨T2583, L2583, k2583, n2583⟩, -, X2583, ⟨Lc2583, hQ2583, l2583, y2583, z2583⟩, st2583⟩ := X0.specialBack hx (y := y_61) rfl hown (mvT hZ (wi hw 373 rfl)) (mvT hZ (wi hw 374 rfl)) (mvT hZ (wi hw 378 rfl)) (by decide) (backOf (W := 0) (rm_AC l Z a0 hw [] al h0 n0 Z0 ) hZ (wi hw 378 rfl) (wi hw 377 rfl) (by decide) (by decide)) (g := (mkF m 1 #[vR al] [(.ref al)])) rfl (by rw [hml]; rfl) (Steps.refl _) (a := al) (argsL := []) (rest := []) (lenOf pd___V rfl) rfl (by show 2 * 0 + _ ≤ _; exact Nat.le_of_eq rfl) (hb hby d57_1) (fun _ _ => ⟨rfl, e0, (by decide : 0 + 0 ≤ _), (by decide : 0 + 0 ≤ _)⟩)
 dsimp only [Pt.U, Pt.locs, Pt.cells, Pt.slots] at X2583 l2583 y2583 z2583 st2583 hQ2583
 subst l2583 y2583 z2583
 obtain ⟨rfl, NQ2583, K2583⟩ := hQ2583
 have N2584 := Fr.app N0 NQ2583
 refine Rch.st (fun _ k => st2583.trans k) ?_
 show Rch p e below T2583 (mkF m 4 #[vR al] []) _
 refine w_aloadN (pc' := 5) X2583 hx hby d57_4 rfl rfl rfl ?_
 refine w_iconst (pc' := 6) (v := 0) X2583 hx hby d57_5 rfl rfl ?_
 obtain ⟨T2585, h2585, X2585, e2585, W2585, st2585⟩ := putF X2583 hx hZ hown (host := "") (Or.inl (wi hw 380 rfl)) Via.refl K2583 f2 f0 (Or.inl (wi hw 381 rfl)) (wi hw 362 rfl) (ty := .int) (by decide) rfl rfl (g := (mkF m 6 #[vR al] [(.int 0), (.ref al)])) rfl rfl (hb hby d57_6)
 have N2586 := Fr.snoc X2585 N2584 ga
 have f2588 := f1.other W2585 (Or.inr (slot_ne (t := (.array (.object "java/lang/Object"))) (t' := .int) (Or.inl (wi hw 384 rfl)) (Or.inl (wi hw 381 rfl)) (by decide) (by decide) (by decide)))
 have Kp2591 : Keep h0 h2585 [al] := K00.wr W2585 (Or.inl (List.mem_of_getElem? (i := 0) rfl))
 refine Rch.st (fun _ k => st2585 _ k) ?_
 show Rch p e below T2585 (mkF m 9 #[vR al] []) _
 exact Rch.ret0 X2585 hx Bd.returns (hb hby d57_9) (by rw [e2585]; exact ⟨rfl, N2586, Kp2591, f2588⟩) (by decide) (by decide)

abbrev c58 : ByteArray := jdk_38_method_2_code
theorem d58_0 : decode c58 0 = .ok (.aload_n 0, 1) := by decide +kernel
theorem d58_1 : decode c58 1 = .ok (.invokespecial 1, 3) := by decide +kernel
theorem d58_4 : decode c58 4 = .ok (.aload_n 0, 1) := by decide +kernel
theorem d58_5 : decode c58 5 = .ok (.getstatic 39, 3) := by decide +kernel
theorem d58_8 : decode c58 8 = .ok (.putfield 9, 3) := by decide +kernel
theorem d58_11 : decode c58 11 = .ok (.return_, 1) := by decide +kernel
theorem pn_java_util_ArrayList : plainName "java/util/ArrayList" = true := by first | (simp [plainName, overriddenIn]; done) | decide +kernel
theorem ef_rm_AL (m : MethodId) (G7 : Addr) (al : Addr)  : entryFrame m #[(.ref al)] 1 = mkF m 0 #[vR al] [] := by  first | (simp [entryFrame, mkF, argsToLocals, Value.category, maxLocals]; done) | rfl
def Q_rm_AL (Z : State) (G7 : Addr) (al : Addr) (h0 : Heap) (n0 : Nat) (v : Option Value) (h : Heap) (L : List Loc) : Prop := (v = none) ∧ (Fr n0 L) ∧ (Keep h0 h [al])
set_option maxRecDepth 65536 in
set_option maxHeartbeats 40000000 in
theorem rm_AL (l : Launch) (Z : State) (a0 : Array Value) (hw : ∀ d ∈ tables_1, d.before a0 Z = true) (ws : List Jvm.Cond) (G7 : Addr) (al : Addr) (h0 : Heap) (n0 : Nat) (Z0 : n0 ≤ h0.size) (O7 : Sta Z Z.heap "java/util/ArrayList" "DEFAULTCAPACITY_EMPTY_ELEMENTDATA" "[Ljava/lang/Object;" (.ref G7)) (f1 : Exa Z h0 al "java/util/ArrayList") (f2 : Fld Z h0 al "java/util/ArrayList" "elementData" "[Ljava/lang/Object;" .null) (f3 : Fld Z h0 al "java/util/AbstractList" "modCount" "I" (.int (0 : Int32))) (ga : n0 ≤ al) (Old0 : OldL Z n0 h0) :
    MetN l Z y_63 c58 1 none ws (Rm 3 0 0 36) #[(.ref al)] h0 (Q_rm_AL Z G7 al h0 n0) := by
 refine MetFree.of_bodySF (plainFor_of_name pn_java_util_ArrayList) hisR ?_
 intro p e s m args below meth c s₁ Bd hml0 hP hK
 obtain ⟨rfl, hZ, hh⟩ := hP
 have hx := Bd.exec
 have hby := Bd.bytes
 have hml : c.maxLocals = 1 := hml0
 have hown : s.vm.findClass "java/util/ArrayList" = some m.cls := findClass_of_methodNamed Bd.named
 have X0 : Stand p l e (Rm 3 0 0 36) s m #[(.ref al)] below meth c s₁ [] 0 0 := Stand.of_body Bd
 have e0 : s₁.heap = h0 := by rw [← hh, Bd.state]; rfl
 have N0 := Fr.nil n0
 have K00 : Keep h0 h0 [al] := Keep.refl _ _
 show Rch p e below s₁ (entryFrame m #[(.ref al)] 1) (FinP s (Q_rm_AL Z G7 al h0 n0) 0 0)
 refine Rch.cast (ef_rm_AL m G7 al) ?_
 show Rch p e below s₁ (mkF m 0 #[vR al] []) _
 refine w_aloadN (pc' := 1) X0 hx hby d58_0 rfl rfl rfl ?_
 obtain ⟨_, _, ⟨T2592, L2592, k2592, n2592⟩, -, X2592, ⟨Lc2592, hQ2592, l2592, y2592, z2592⟩, st2592⟩ := X0.specialBack hx (y := y_62) rfl hown (mvT hZ (wi hw 367 rfl)) (mvT hZ (wi hw 368 rfl)) (mvT hZ (wi hw 372 rfl)) (by decide) (backOf (W := 0) (rm_ALi l Z a0 hw [] al h0 n0 Z0 f1 f2 f3 (ga)) hZ (wi hw 372 rfl) (wi hw 371 rfl) (by decide) (by decide)) (g := (mkF m 1 #[vR al] [(.ref al)])) rfl (by rw [hml]; rfl) (Steps.refl _) (a := al) (argsL := []) (rest := []) (lenOf pd___V rfl) rfl (by show 2 * 0 + _ ≤ _; exact Nat.le_of_eq rfl) (hb hby d58_1) (fun _ _ => ⟨rfl, e0, (by decide : 0 + 0 ≤ _), (by decide : 0 + 0 ≤ _)⟩)
 dsimp only [Pt.U, Pt.locs, Pt.cells, Pt.slots] at X2592 l2592 y2592 z2592 st2592 hQ2592
 subst l2592 y2592 z2592
 obtain ⟨rfl, NQ2592, K2592, fq2592_0⟩ := hQ2592
 have N2593 := Fr.app N0 NQ2592
 have f2594 := f1.keep K2592
 have Old2595 := Old0.keep K2592 (allS ga all0)
 have Kp2596 : Keep h0 T2592.heap [al] := K00.trans K2592 (allS (Or.inl (List.mem_of_getElem? (i := 0) rfl)) all0)
 refine Rch.st (fun _ k => st2592.trans k) ?_
 show Rch p e below T2592 (mkF m 4 #[vR al] []) _
 refine w_aloadN (pc' := 5) X2592 hx hby d58_4 rfl rfl rfl ?_
 obtain ⟨T2598, X2598, e2598, st2598⟩ := getS X2592 hx hZ hown (host := "") (wi hw 382 rfl) Via.refl (rfl : T2592.heap = T2592.heap) (O7.ext Old2595.2) (g := (mkF m 5 #[vR al] [(.ref al)])) rfl (hb hby d58_5)
 refine Rch.st (fun _ k => st2598 _ k) ?_
 show Rch p e below T2598 (mkF m 8 #[vR al] [(.ref G7), (.ref al)]) _
 obtain ⟨T2599, h2599, X2599, e2599, W2599, st2599⟩ := putF X2598 hx hZ hown (host := "") (Or.inl (wi hw 383 rfl)) Via.refl e2598 fq2592_0 f2594 (Or.inl (wi hw 384 rfl)) (wi hw 362 rfl) (ty := (.array (.object "java/lang/Object"))) (by decide) rfl rfl (g := (mkF m 8 #[vR al] [(.ref G7), (.ref al)])) rfl rfl (hb hby d58_8)
 have N2600 := Fr.snoc X2599 N2593 ga
 have Kp2605 : Keep h0 h2599 [al] := Kp2596.wr W2599 (Or.inl (List.mem_of_getElem? (i := 0) rfl))
 refine Rch.st (fun _ k => st2599 _ k) ?_
 show Rch p e below T2599 (mkF m 11 #[vR al] []) _
 exact Rch.ret0 X2599 hx Bd.returns (hb hby d58_11) (by rw [e2599]; exact ⟨rfl, N2600, Kp2605⟩) (by decide) (by decide)

abbrev c59 : ByteArray := jdk_119_method_1_code
theorem d59_0 : decode c59 0 = .ok (.aload_n 0, 1) := by decide +kernel
theorem d59_1 : decode c59 1 = .ok (.invokespecial 1, 3) := by decide +kernel
theorem d59_4 : decode c59 4 = .ok (.aload_n 1, 1) := by decide +kernel
theorem d59_5 : decode c59 5 = .ok (.ifnonnull 11, 3) := by decide +kernel
theorem d59_16 : decode c59 16 = .ok (.aload_n 0, 1) := by decide +kernel
theorem d59_17 : decode c59 17 = .ok (.aload_n 1, 1) := by decide +kernel
theorem d59_18 : decode c59 18 = .ok (.putfield 10, 3) := by decide +kernel
theorem d59_21 : decode c59 21 = .ok (.return_, 1) := by decide +kernel
theorem pn_java_util_Collections_UnmodifiableCollection : plainName "java/util/Collections$UnmodifiableCollection" = true := by first | (simp [plainName, overriddenIn]; done) | decide +kernel
theorem ef_rm_UC (m : MethodId) (un : Addr) (al : Addr)  : entryFrame m #[(.ref un), (.ref al)] 2 = mkF m 0 #[vR un, vR al] [] := by  first | (simp [entryFrame, mkF, argsToLocals, Value.category, maxLocals]; done) | rfl
def Q_rm_UC (Z : State) (un : Addr) (al : Addr) (h0 : Heap) (n0 : Nat) (v : Option Value) (h : Heap) (L : List Loc) : Prop := (v = none) ∧ (Fr n0 L) ∧ (Keep h0 h [un]) ∧ (Fld Z h un "java/util/Collections$UnmodifiableList" "list" "Ljava/util/List;" .null)
set_option maxRecDepth 65536 in
set_option maxHeartbeats 40000000 in
theorem rm_UC (l : Launch) (Z : State) (a0 : Array Value) (hw : ∀ d ∈ tables_1, d.before a0 Z = true) (ws : List Jvm.Cond) (un : Addr) (al : Addr) (h0 : Heap) (n0 : Nat) (Z0 : n0 ≤ h0.size) (f0 : Exa Z h0 un "java/util/Collections$UnmodifiableRandomAccessList") (f1 : Fld Z h0 un "java/util/Collections$UnmodifiableCollection" "c" "Ljava/util/Collection;" .null) (f2 : Fld Z h0 un "java/util/Collections$UnmodifiableList" "list" "Ljava/util/List;" .null) (gu : n0 ≤ un) :
    MetN l Z y_64 c59 2 none ws (Rm 1 0 0 12) #[(.ref un), (.ref al)] h0 (Q_rm_UC Z un al h0 n0) := by
 refine MetFree.of_bodySF (plainFor_of_name pn_java_util_Collections_UnmodifiableCollection) hisR ?_
 intro p e s m args below meth c s₁ Bd hml0 hP hK
 obtain ⟨rfl, hZ, hh⟩ := hP
 have hx := Bd.exec
 have hby := Bd.bytes
 have hml : c.maxLocals = 2 := hml0
 have hown : s.vm.findClass "java/util/Collections$UnmodifiableCollection" = some m.cls := findClass_of_methodNamed Bd.named
 have hnm := (name_of_methodNamed Bd.named Bd.method).1
 have X0 : Stand p l e (Rm 1 0 0 12) s m #[(.ref un), (.ref al)] below meth c s₁ [] 0 0 := Stand.of_body Bd
 have e0 : s₁.heap = h0 := by rw [← hh, Bd.state]; rfl
 have N0 := Fr.nil n0
 have K00 : Keep h0 h0 [un] := Keep.refl _ _
 show Rch p e below s₁ (entryFrame m #[(.ref un), (.ref al)] 2) (FinP s (Q_rm_UC Z un al h0 n0) 0 0)
 refine Rch.cast (ef_rm_UC m un al) ?_
 show Rch p e below s₁ (mkF m 0 #[vR un, vR al] []) _
 refine w_aloadN (pc' := 1) X0 hx hby d59_0 rfl rfl rfl ?_
 obtain ⟨T2606, X2606, e2606, st2606⟩ := initO X0 hx hZ hown (wi hw 437 rfl) (wi hw 24 rfl) (wi hw 25 rfl) e0 (g := (mkF m 1 #[vR un, vR al] [(.ref un)])) rfl (by rw [hml]; rfl) rfl (hb hby d59_1) (by decide) (W := 0) (by show 2 * 0 + _ ≤ _; exact Nat.le_of_eq rfl) (by decide)
 refine Rch.st (fun _ k => st2606 _ k) ?_
 show Rch p e below T2606 (mkF m 4 #[vR un, vR al] []) _
 refine w_aloadN (pc' := 5) X2606 hx hby d59_4 rfl rfl rfl ?_
 refine w_nonnullYes (pc' := 16) X2606 hx hby d59_5 rfl (fun q => nomatch q) (by decide) ?_
 refine w_aloadN (pc' := 17) X2606 hx hby d59_16 rfl rfl rfl ?_
 refine w_aloadN (pc' := 18) X2606 hx hby d59_17 rfl rfl rfl ?_
 obtain ⟨T2607, h2607, X2607, e2607, W2607, st2607⟩ := putF X2606 hx hZ hown (host := "") (Or.inl (wi hw 438 rfl)) Via.refl e2606 f1 f0 (Or.inr ⟨(wi hw 439 rfl), rfl, hnm⟩) (wi hw 420 rfl) (ty := (.object "java/util/Collection")) (by decide) rfl rfl (g := (mkF m 18 #[vR un, vR al] [(.ref al), (.ref un)])) rfl rfl (hb hby d59_18)
 have N2608 := Fr.snoc X2607 N0 gu
 have f2611 := f2.other W2607 (Or.inr (slot_ne (t := (.object "java/util/List")) (t' := (.object "java/util/Collection")) (Or.inr (wi hw 441 rfl)) (Or.inr (wi hw 439 rfl)) (by decide) (by decide) (by decide)))
 have Kp2613 : Keep h0 h2607 [un] := K00.wr W2607 (Or.inl (List.mem_of_getElem? (i := 0) rfl))
 refine Rch.st (fun _ k => st2607 _ k) ?_
 show Rch p e below T2607 (mkF m 21 #[vR un, vR al] []) _
 exact Rch.ret0 X2607 hx Bd.returns (hb hby d59_21) (by rw [e2607]; exact ⟨rfl, N2608, Kp2613, f2611⟩) (by decide) (by decide)

abbrev c60 : ByteArray := jdk_120_method_1_code
theorem d60_0 : decode c60 0 = .ok (.aload_n 0, 1) := by decide +kernel
theorem d60_1 : decode c60 1 = .ok (.aload_n 1, 1) := by decide +kernel
theorem d60_2 : decode c60 2 = .ok (.invokespecial 1, 3) := by decide +kernel
theorem d60_5 : decode c60 5 = .ok (.aload_n 0, 1) := by decide +kernel
theorem d60_6 : decode c60 6 = .ok (.aload_n 1, 1) := by decide +kernel
theorem d60_7 : decode c60 7 = .ok (.putfield 7, 3) := by decide +kernel
theorem d60_10 : decode c60 10 = .ok (.return_, 1) := by decide +kernel
theorem pn_java_util_Collections_UnmodifiableList : plainName "java/util/Collections$UnmodifiableList" = true := by first | (simp [plainName, overriddenIn]; done) | decide +kernel
theorem ef_rm_UL (m : MethodId) (un : Addr) (al : Addr)  : entryFrame m #[(.ref un), (.ref al)] 2 = mkF m 0 #[vR un, vR al] [] := by  first | (simp [entryFrame, mkF, argsToLocals, Value.category, maxLocals]; done) | rfl
def Q_rm_UL (Z : State) (un : Addr) (al : Addr) (h0 : Heap) (n0 : Nat) (v : Option Value) (h : Heap) (L : List Loc) : Prop := (v = none) ∧ (Fr n0 L) ∧ (Keep h0 h [un])
theorem pd__Ljava_util_Collection__V : parseMethodDescriptor "(Ljava/util/Collection;)V" = some ⟨[(.object "java/util/Collection")], none⟩ := by decide +kernel
set_option maxRecDepth 65536 in
set_option maxHeartbeats 40000000 in
theorem rm_UL (l : Launch) (Z : State) (a0 : Array Value) (hw : ∀ d ∈ tables_1, d.before a0 Z = true) (ws : List Jvm.Cond) (un : Addr) (al : Addr) (h0 : Heap) (n0 : Nat) (Z0 : n0 ≤ h0.size) (f0 : Exa Z h0 un "java/util/Collections$UnmodifiableRandomAccessList") (f1 : Fld Z h0 un "java/util/Collections$UnmodifiableCollection" "c" "Ljava/util/Collection;" .null) (f2 : Fld Z h0 un "java/util/Collections$UnmodifiableList" "list" "Ljava/util/List;" .null) (gu : n0 ≤ un) :
    MetN l Z y_65 c60 2 none ws (Rm 2 0 0 25) #[(.ref un), (.ref al)] h0 (Q_rm_UL Z un al h0 n0) := by
 refine MetFree.of_bodySF (plainFor_of_name pn_java_util_Collections_UnmodifiableList) hisR ?_
 intro p e s m args below meth c s₁ Bd hml0 hP hK
 obtain ⟨rfl, hZ, hh⟩ := hP
 have hx := Bd.exec
 have hby := Bd.bytes
 have hml : c.maxLocals = 2 := hml0
 have hown : s.vm.findClass "java/util/Collections$UnmodifiableList" = some m.cls := findClass_of_methodNamed Bd.named
 have hnm := (name_of_methodNamed Bd.named Bd.method).1
 have X0 : Stand p l e (Rm 2 0 0 25) s m #[(.ref un), (.ref al)] below meth c s₁ [] 0 0 := Stand.of_body Bd
 have e0 : s₁.heap = h0 := by rw [← hh, Bd.state]; rfl
 have N0 := Fr.nil n0
 have K00 : Keep h0 h0 [un] := Keep.refl _ _
 show Rch p e below s₁ (entryFrame m #[(.ref un), (.ref al)] 2) (FinP s (Q_rm_UL Z un al h0 n0) 0 0)
 refine Rch.cast (ef_rm_UL m un al) ?_
 show Rch p e below s₁ (mkF m 0 #[vR un, vR al] []) _
 refine w_aloadN (pc' := 1) X0 hx hby d60_0 rfl rfl rfl ?_
 refine w_aloadN (pc' := 2) X0 hx hby d60_1 rfl rfl rfl ?_
 obtain ⟨_, _, ⟨T2614, L2614, k2614, n2614⟩, -, X2614, ⟨Lc2614, hQ2614, l2614, y2614, z2614⟩, st2614⟩ := X0.specialBack hx (y := y_64) rfl hown (mvT hZ (wi hw 431 rfl)) (mvT hZ (wi hw 432 rfl)) (mvT hZ (wi hw 436 rfl)) (by decide) (backOf (W := 0) (rm_UC l Z a0 hw [] un al h0 n0 Z0 f0 f1 f2 (gu)) hZ (wi hw 436 rfl) (wi hw 435 rfl) (by decide) (by decide)) (g := (mkF m 2 #[vR un, vR al] [(.ref al), (.ref un)])) rfl (by rw [hml]; rfl) (Steps.refl _) (a := un) (argsL := [(.ref al)]) (rest := []) (lenOf pd__Ljava_util_Collection__V rfl) rfl (by show 2 * 0 + _ ≤ _; exact Nat.le_of_eq rfl) (hb hby d60_2) (fun _ _ => ⟨rfl, e0, (by decide : 0 + 0 ≤ _), (by decide : 0 + 0 ≤ _)⟩)
 dsimp only [Pt.U, Pt.locs, Pt.cells, Pt.slots] at X2614 l2614 y2614 z2614 st2614 hQ2614
 subst l2614 y2614 z2614
 obtain ⟨rfl, NQ2614, K2614, fq2614_0⟩ := hQ2614
 have N2615 := Fr.app N0 NQ2614
 have f2616 := f0.keep K2614
 have Kp2617 : Keep h0 T2614.heap [un] := K00.trans K2614 (allS (Or.inl (List.mem_of_getElem? (i := 0) rfl)) all0)
 refine Rch.st (fun _ k => st2614.trans k) ?_
 show Rch p e below T2614 (mkF m 5 #[vR un, vR al] []) _
 refine w_aloadN (pc' := 6) X2614 hx hby d60_5 rfl rfl rfl ?_
 refine w_aloadN (pc' := 7) X2614 hx hby d60_6 rfl rfl rfl ?_
 obtain ⟨T2619, h2619, X2619, e2619, W2619, st2619⟩ := putF X2614 hx hZ hown (host := "") (Or.inl (wi hw 440 rfl)) Via.refl (rfl : T2614.heap = T2614.heap) fq2614_0 f2616 (Or.inr ⟨(wi hw 441 rfl), rfl, hnm⟩) (wi hw 420 rfl) (ty := (.object "java/util/List")) (by decide) rfl rfl (g := (mkF m 7 #[vR un, vR al] [(.ref al), (.ref un)])) rfl rfl (hb hby d60_7)
 have N2620 := Fr.snoc X2619 N2615 gu
 have Kp2624 : Keep h0 h2619 [un] := Kp2617.wr W2619 (Or.inl (List.mem_of_getElem? (i := 0) rfl))
 refine Rch.st (fun _ k => st2619 _ k) ?_
 show Rch p e below T2619 (mkF m 10 #[vR un, vR al] []) _
 exact Rch.ret0 X2619 hx Bd.returns (hb hby d60_10) (by rw [e2619]; exact ⟨rfl, N2620, Kp2624⟩) (by decide) (by decide)

abbrev c61 : ByteArray := jdk_121_method_1_code
theorem d61_0 : decode c61 0 = .ok (.aload_n 0, 1) := by decide +kernel
theorem d61_1 : decode c61 1 = .ok (.aload_n 1, 1) := by decide +kernel
theorem d61_2 : decode c61 2 = .ok (.invokespecial 1, 3) := by decide +kernel
theorem d61_5 : decode c61 5 = .ok (.return_, 1) := by decide +kernel
theorem pn_java_util_Collections_UnmodifiableRandomAccessList : plainName "java/util/Collections$UnmodifiableRandomAccessList" = true := by first | (simp [plainName, overriddenIn]; done) | decide +kernel
theorem ef_rm_UR (m : MethodId) (un : Addr) (al : Addr)  : entryFrame m #[(.ref un), (.ref al)] 2 = mkF m 0 #[vR un, vR al] [] := by  first | (simp [entryFrame, mkF, argsToLocals, Value.category, maxLocals]; done) | rfl
def Q_rm_UR (Z : State) (un : Addr) (al : Addr) (h0 : Heap) (n0 : Nat) (v : Option Value) (h : Heap) (L : List Loc) : Prop := (v = none) ∧ (Fr n0 L) ∧ (Keep h0 h [un])
theorem pd__Ljava_util_List__V : parseMethodDescriptor "(Ljava/util/List;)V" = some ⟨[(.object "java/util/List")], none⟩ := by decide +kernel
set_option maxRecDepth 65536 in
set_option maxHeartbeats 40000000 in
theorem rm_UR (l : Launch) (Z : State) (a0 : Array Value) (hw : ∀ d ∈ tables_1, d.before a0 Z = true) (ws : List Jvm.Cond) (un : Addr) (al : Addr) (h0 : Heap) (n0 : Nat) (Z0 : n0 ≤ h0.size) (f0 : Exa Z h0 un "java/util/Collections$UnmodifiableRandomAccessList") (f1 : Fld Z h0 un "java/util/Collections$UnmodifiableCollection" "c" "Ljava/util/Collection;" .null) (f2 : Fld Z h0 un "java/util/Collections$UnmodifiableList" "list" "Ljava/util/List;" .null) (gu : n0 ≤ un) :
    MetN l Z y_66 c61 2 none ws (Rm 3 0 0 38) #[(.ref un), (.ref al)] h0 (Q_rm_UR Z un al h0 n0) := by
 refine MetFree.of_bodySF (plainFor_of_name pn_java_util_Collections_UnmodifiableRandomAccessList) hisR ?_
 intro p e s m args below meth c s₁ Bd hml0 hP hK
 obtain ⟨rfl, hZ, hh⟩ := hP
 have hx := Bd.exec
 have hby := Bd.bytes
 have hml : c.maxLocals = 2 := hml0
 have hown : s.vm.findClass "java/util/Collections$UnmodifiableRandomAccessList" = some m.cls := findClass_of_methodNamed Bd.named
 have X0 : Stand p l e (Rm 3 0 0 38) s m #[(.ref un), (.ref al)] below meth c s₁ [] 0 0 := Stand.of_body Bd
 have e0 : s₁.heap = h0 := by rw [← hh, Bd.state]; rfl
 have N0 := Fr.nil n0
 have K00 : Keep h0 h0 [un] := Keep.refl _ _
 show Rch p e below s₁ (entryFrame m #[(.ref un), (.ref al)] 2) (FinP s (Q_rm_UR Z un al h0 n0) 0 0)
 refine Rch.cast (ef_rm_UR m un al) ?_
 show Rch p e below s₁ (mkF m 0 #[vR un, vR al] []) _
 refine w_aloadN (pc' := 1) X0 hx hby d61_0 rfl rfl rfl ?_
 refine w_aloadN (pc' := 2) X0 hx hby d61_1 rfl rfl rfl ?_
 obtain ⟨_, _, ⟨T2625, L2625, k2625, n2625⟩, -, X2625, ⟨Lc2625, hQ2625, l2625, y2625, z2625⟩, st2625⟩ := X0.specialBack hx (y := y_65) rfl hown (mvT hZ (wi hw 425 rfl)) (mvT hZ (wi hw 426 rfl)) (mvT hZ (wi hw 430 rfl)) (by decide) (backOf (W := 0) (rm_UL l Z a0 hw [] un al h0 n0 Z0 f0 f1 f2 (gu)) hZ (wi hw 430 rfl) (wi hw 429 rfl) (by decide) (by decide)) (g := (mkF m 2 #[vR un, vR al] [(.ref al), (.ref un)])) rfl (by rw [hml]; rfl) (Steps.refl _) (a := un) (argsL := [(.ref al)]) (rest := []) (lenOf pd__Ljava_util_List__V rfl) rfl (by show 2 * 0 + _ ≤ _; exact Nat.le_of_eq rfl) (hb hby d61_2) (fun _ _ => ⟨rfl, e0, (by decide : 0 + 0 ≤ _), (by decide : 0 + 0 ≤ _)⟩)
 dsimp only [Pt.U, Pt.locs, Pt.cells, Pt.slots] at X2625 l2625 y2625 z2625 st2625 hQ2625
 subst l2625 y2625 z2625
 obtain ⟨rfl, NQ2625, K2625⟩ := hQ2625
 have N2626 := Fr.app N0 NQ2625
 have Kp2628 : Keep h0 T2625.heap [un] := K00.trans K2625 (allS (Or.inl (List.mem_of_getElem? (i := 0) rfl)) all0)
 refine Rch.st (fun _ k => st2625.trans k) ?_
 show Rch p e below T2625 (mkF m 5 #[vR un, vR al] []) _
 exact Rch.ret0 X2625 hx Bd.returns (hb hby d61_5) (by rw [(rfl : T2625.heap = T2625.heap)]; exact ⟨rfl, N2626, Kp2628⟩) (by decide) (by decide)

abbrev c62 : ByteArray := jdk_79_method_35_code
theorem d62_0 : decode c62 0 = .ok (.aload_n 0, 1) := by decide +kernel
theorem d62_1 : decode c62 1 = .ok (.invokeinterface 211 1, 5) := by decide +kernel
theorem d62_6 : decode c62 6 = .ok (.ldc 212, 2) := by decide +kernel
theorem d62_8 : decode c62 8 = .ok (.if_acmp .eq 14, 3) := by decide +kernel
theorem d62_11 : decode c62 11 = .ok (.aload_n 0, 1) := by decide +kernel
theorem d62_12 : decode c62 12 = .ok (.invokeinterface 214 1, 5) := by decide +kernel
theorem d62_17 : decode c62 17 = .ok (.ldc 215, 2) := by decide +kernel
theorem d62_19 : decode c62 19 = .ok (.if_acmp .ne 5, 3) := by decide +kernel
theorem d62_22 : decode c62 22 = .ok (.aload_n 0, 1) := by decide +kernel
theorem d62_23 : decode c62 23 = .ok (.areturn, 1) := by decide +kernel
theorem d62_24 : decode c62 24 = .ok (.aload_n 0, 1) := by decide +kernel
theorem d62_25 : decode c62 25 = .ok (.instanceof 13, 3) := by decide +kernel
theorem d62_28 : decode c62 28 = .ok (.ifCond .eq 14, 3) := by decide +kernel
theorem d62_31 : decode c62 31 = .ok (.new 215, 3) := by decide +kernel
theorem d62_34 : decode c62 34 = .ok (.dup, 1) := by decide +kernel
theorem d62_35 : decode c62 35 = .ok (.aload_n 0, 1) := by decide +kernel
theorem d62_36 : decode c62 36 = .ok (.invokespecial 217, 3) := by decide +kernel
theorem d62_39 : decode c62 39 = .ok (.goto 11, 3) := by decide +kernel
theorem d62_50 : decode c62 50 = .ok (.areturn, 1) := by decide +kernel
theorem pn_java_util_Collections : plainName "java/util/Collections" = true := by first | (simp [plainName, overriddenIn]; done) | decide +kernel
theorem ef_rm_ul (m : MethodId) (mi1 : Addr) (mi2 : Addr) (mi3 : Addr) (al : Addr)  : entryFrame m #[(.ref al)] 1 = mkF m 0 #[vR al] [] := by  first | (simp [entryFrame, mkF, argsToLocals, Value.category, maxLocals]; done) | rfl
def Q_rm_ul (Z : State) (mi1 : Addr) (mi2 : Addr) (mi3 : Addr) (al : Addr) (h0 : Heap) (n0 : Nat) (v : Option Value) (h : Heap) (L : List Loc) : Prop := ∃ (r : Addr), (v = some (.ref r)) ∧ (Fr n0 L) ∧ (Keep h0 h [])
set_option maxRecDepth 65536 in
set_option maxHeartbeats 40000000 in
theorem rm_ul (l : Launch) (Z : State) (a0 : Array Value) (hw : ∀ d ∈ tables_1, d.before a0 Z = true) (ws : List Jvm.Cond) (mi1 : Addr) (mi2 : Addr) (mi3 : Addr) (al : Addr) (h0 : Heap) (n0 : Nat) (Z0 : n0 ≤ h0.size) (M1 : own_Mir Z "java/util/ArrayList" mi1) (M2 : own_Mir Z "java/util/Collections$UnmodifiableList" mi2) (M3 : own_Mir Z "java/util/Collections$UnmodifiableRandomAccessList" mi3) (f3 : Exa Z h0 al "java/util/ArrayList") :
    MetN l Z y_67 c62 1 (some (.object "java/util/List")) ws (Rm 4 1 2 52) #[(.ref al)] h0 (Q_rm_ul Z mi1 mi2 mi3 al h0 n0) := by
 refine MetFree.of_bodySF (plainFor_of_name pn_java_util_Collections) hisR ?_
 intro p e s m args below meth c s₁ Bd hml0 hP hK
 obtain ⟨rfl, hZ, hh⟩ := hP
 have hx := Bd.exec
 have hby := Bd.bytes
 have hml : c.maxLocals = 1 := hml0
 have hown : s.vm.findClass "java/util/Collections" = some m.cls := findClass_of_methodNamed Bd.named
 have X0 : Stand p l e (Rm 4 1 2 52) s m #[(.ref al)] below meth c s₁ [] 0 0 := Stand.of_body Bd
 have e0 : s₁.heap = h0 := by rw [← hh, Bd.state]; rfl
 have N0 := Fr.nil n0
 have K00 : Keep h0 h0 [] := Keep.refl _ _
 show Rch p e below s₁ (entryFrame m #[(.ref al)] 1) (FinP s (Q_rm_ul Z mi1 mi2 mi3 al h0 n0) 1 2)
 refine Rch.cast (ef_rm_ul m mi1 mi2 mi3 al) ?_
 show Rch p e below s₁ (mkF m 0 #[vR al] []) _
 refine w_aloadN (pc' := 1) X0 hx hby d62_0 rfl rfl rfl ?_
 obtain ⟨T2630, X2630, e2630, st2630⟩ := own_gcI (xi := y_68) X0 hx hZ hown (mvT hZ (wi hw 403 rfl)) (mvT hZ (wi hw 404 rfl)) (ULB.iface_rides hZ.alike (wi hw 405 rfl)) (mvT hZ (wi hw 406 rfl)) (mvT hZ (wi hw 407 rfl)) (mvT hZ (wi hw 408 rfl)) (mvT hZ (wi hw 409 rfl)) (mvT hZ (wi hw 410 rfl)) (mvT hZ (wi hw 411 rfl)) (by decide) (by decide) rfl rfl e0 f3 M1 (g := (mkF m 1 #[vR al] [(.ref al)])) rfl (by rw [hml]; rfl) rfl (hb hby d62_1) (by decide) (by show 2 * 0 + 0 + (nativeFrameWords "java/lang/Object" "getClass" 1 + 11) ≤ _; decide)
 refine Rch.st (fun _ k => st2630 _ k) ?_
 show Rch p e below T2630 (mkF m 6 #[vR al] [(.ref mi1)]) _
 obtain ⟨T2631, X2631, e2631, st2631⟩ := own_ldcM X2630 hx hZ hown (wi hw 413 rfl) M2 e2630 (g := (mkF m 6 #[vR al] [(.ref mi1)])) rfl (hb hby d62_6)
 refine Rch.st (fun _ k => st2631 _ k) ?_
 show Rch p e below T2631 (mkF m 8 #[vR al] [(.ref mi2), (.ref mi1)]) _
 by_cases c2632 : ((.ref mi1) : Value) = ((.ref mi2) : Value)
 ·skip
  refine w_acmpYes (pc' := 22) X2631 hx hby d62_8 rfl rfl (XT.aa_eq_t (c2632)) (by decide) ?_
  refine w_aloadN (pc' := 23) X2631 hx hby d62_22 rfl rfl rfl ?_
  exact Rch.retV X2631 hx Bd.returns rfl (Or.inr (Or.inr (Or.inr (Or.inr ⟨rfl, rfl, rfl⟩)))) (hb hby d62_23) (by rw [e2631]; exact ⟨al, rfl, N0, K00⟩) (by decide) (by decide)
 ·skip
  refine w_acmpNo (pc' := 11) X2631 hx hby d62_8 rfl rfl (XT.aa_eq_f (c2632)) rfl ?_
  refine w_aloadN (pc' := 12) X2631 hx hby d62_11 rfl rfl rfl ?_
  obtain ⟨T2633, X2633, e2633, st2633⟩ := own_gcI (xi := y_68) X2631 hx hZ hown (mvT hZ (wi hw 415 rfl)) (mvT hZ (wi hw 404 rfl)) (ULB.iface_rides hZ.alike (wi hw 405 rfl)) (mvT hZ (wi hw 406 rfl)) (mvT hZ (wi hw 407 rfl)) (mvT hZ (wi hw 408 rfl)) (mvT hZ (wi hw 409 rfl)) (mvT hZ (wi hw 410 rfl)) (mvT hZ (wi hw 411 rfl)) (by decide) (by decide) rfl rfl e2631 f3 M1 (g := (mkF m 12 #[vR al] [(.ref al)])) rfl (by rw [hml]; rfl) rfl (hb hby d62_12) (by decide) (by show 2 * 0 + 0 + (nativeFrameWords "java/lang/Object" "getClass" 1 + 11) ≤ _; decide)
  refine Rch.st (fun _ k => st2633 _ k) ?_
  show Rch p e below T2633 (mkF m 17 #[vR al] [(.ref mi1)]) _
  obtain ⟨T2634, X2634, e2634, st2634⟩ := own_ldcM X2633 hx hZ hown (wi hw 416 rfl) M3 e2633 (g := (mkF m 17 #[vR al] [(.ref mi1)])) rfl (hb hby d62_17)
  refine Rch.st (fun _ k => st2634 _ k) ?_
  show Rch p e below T2634 (mkF m 19 #[vR al] [(.ref mi3), (.ref mi1)]) _
  by_cases c2635 : ((.ref mi1) : Value) = ((.ref mi3) : Value)
  ·skip
   refine w_acmpNo (pc' := 22) X2634 hx hby d62_19 rfl rfl (XT.aa_ne_f (c2635)) rfl ?_
   refine w_aloadN (pc' := 23) X2634 hx hby d62_22 rfl rfl rfl ?_
   exact Rch.retV X2634 hx Bd.returns rfl (Or.inr (Or.inr (Or.inr (Or.inr ⟨rfl, rfl, rfl⟩)))) (hb hby d62_23) (by rw [e2634]; exact ⟨al, rfl, N0, K00⟩) (by decide) (by decide)
  ·skip
   refine w_acmpYes (pc' := 24) X2634 hx hby d62_19 rfl rfl (XT.aa_ne_t (c2635)) (by decide) ?_
   refine w_aloadN (pc' := 25) X2634 hx hby d62_24 rfl rfl rfl ?_
   obtain ⟨T2636, X2636, e2636, st2636⟩ := instY X2634 hx hZ hown (wi hw 418 rfl) e2634 (Ins.of_exa f3 (wi hw 419 rfl)) (g := (mkF m 25 #[vR al] [(.ref al)])) rfl rfl (hb hby d62_25)
   refine Rch.st (fun _ k => st2636 _ k) ?_
   show Rch p e below T2636 (mkF m 28 #[vR al] [(.int 1)]) _
   refine w_ifNo (pc' := 31) X2636 hx hby d62_28 (XT.i0_eq_f (by decide)) rfl ?_
   obtain ⟨T2637, h2637, X2637, e2637, E2637, A2637, D2637, -, st2637⟩ := newO X2636 hx hZ hown (wi hw 416 rfl) (wi hw 420 rfl) (wi hw 421 rfl) e2636 (g := (mkF m 31 #[vR al] [])) rfl (hb hby d62_31) (by decide) (by decide)
   obtain ⟨a2637, g2637⟩ : ∃ z, z = h0.size := ⟨_, rfl⟩
   rw [← g2637] at A2637 D2637 st2637
   have ge2639 : n0 ≤ a2637 := Nat.le_trans Z0 (Nat.le_of_eq g2637.symm)
   have Z2642 := Nat.le_trans Z0 E2637.1
   have Kp2643 : Keep h0 h2637 [] := K00.ext E2637
   have f2644 : Fld Z h2637 a2637 "java/util/Collections$UnmodifiableCollection" "c" "Ljava/util/Collection;" .null := D2637 (Or.inr (wi hw 439 rfl)) (ty := (.object "java/util/Collection")) (by decide)
   have f2645 : Fld Z h2637 a2637 "java/util/Collections$UnmodifiableList" "list" "Ljava/util/List;" .null := D2637 (Or.inr (wi hw 441 rfl)) (ty := (.object "java/util/List")) (by decide)
   refine Rch.st (fun _ k => st2637 _ k) ?_
   show Rch p e below T2637 (mkF m 34 #[vR al] [(.ref a2637)]) _
   refine w_dup (pc' := 35) X2637 hx hby d62_34 rfl rfl ?_
   refine w_aloadN (pc' := 36) X2637 hx hby d62_35 rfl rfl rfl ?_
   obtain ⟨_, _, ⟨T2646, L2646, k2646, n2646⟩, -, X2646, ⟨Lc2646, hQ2646, l2646, y2646, z2646⟩, st2646⟩ := X2637.specialBack hx (y := y_66) rfl hown (mvT hZ (wi hw 422 rfl)) (mvT hZ (wi hw 423 rfl)) (mvT hZ (wi hw 424 rfl)) (by decide) (backOf (W := 1) (rm_UR l Z a0 hw [] a2637 al h2637 n0 Z2642 A2637 f2644 f2645 (ge2639)) hZ (wi hw 424 rfl) (wi hw 421 rfl) (by decide) (by decide)) (g := (mkF m 36 #[vR al] [(.ref al), (.ref a2637), (.ref a2637)])) rfl (by rw [hml]; rfl) (Steps.refl _) (a := a2637) (argsL := [(.ref al)]) (rest := [(.ref a2637)]) (lenOf pd__Ljava_util_List__V rfl) rfl (by show 2 * 0 + _ ≤ _; exact Nat.le_of_eq rfl) (hb hby d62_36) (fun _ _ => ⟨rfl, e2637, (by decide : 1 + 0 ≤ _), (by decide : 2 + 0 ≤ _)⟩)
   dsimp only [Pt.U, Pt.locs, Pt.cells, Pt.slots] at X2646 l2646 y2646 z2646 st2646 hQ2646
   subst l2646 y2646 z2646
   obtain ⟨rfl, NQ2646, K2646⟩ := hQ2646
   have N2647 := Fr.app N0 NQ2646
   have Kp2650 : Keep h0 T2646.heap [] := Kp2643.trans K2646 (allS (Or.inr (Nat.le_trans K00.1 (Nat.le_of_eq g2637.symm))) all0)
   refine Rch.st (fun _ k => st2646.trans k) ?_
   show Rch p e below T2646 (mkF m 39 #[vR al] [(.ref a2637)]) _
   refine w_goto (pc' := 50) X2646 hx hby d62_39 (by decide) ?_
   exact Rch.retV X2646 hx Bd.returns rfl (Or.inr (Or.inr (Or.inr (Or.inr ⟨rfl, rfl, rfl⟩)))) (hb hby d62_50) (by rw [(rfl : T2646.heap = T2646.heap)]; exact ⟨a2637, rfl, N2647, Kp2650⟩) (by decide) (by decide)

abbrev c63 : ByteArray := prog_9_method_1_code
theorem d63_0 : decode c63 0 = .ok (.aload_n 0, 1) := by decide +kernel
theorem d63_1 : decode c63 1 = .ok (.invokespecial 1, 3) := by decide +kernel
theorem d63_4 : decode c63 4 = .ok (.aload_n 0, 1) := by decide +kernel
theorem d63_5 : decode c63 5 = .ok (.aload_n 1, 1) := by decide +kernel
theorem d63_6 : decode c63 6 = .ok (.putfield 7, 3) := by decide +kernel
theorem d63_9 : decode c63 9 = .ok (.aload_n 0, 1) := by decide +kernel
theorem d63_10 : decode c63 10 = .ok (.aload_n 2, 1) := by decide +kernel
theorem d63_11 : decode c63 11 = .ok (.putfield 13, 3) := by decide +kernel
theorem d63_14 : decode c63 14 = .ok (.aload_n 0, 1) := by decide +kernel
theorem d63_15 : decode c63 15 = .ok (.aload_n 3, 1) := by decide +kernel
theorem d63_16 : decode c63 16 = .ok (.putfield 17, 3) := by decide +kernel
theorem d63_19 : decode c63 19 = .ok (.aload_n 0, 1) := by decide +kernel
theorem d63_20 : decode c63 20 = .ok (.aload 4, 2) := by decide +kernel
theorem d63_22 : decode c63 22 = .ok (.putfield 21, 3) := by decide +kernel
theorem d63_25 : decode c63 25 = .ok (.aload_n 0, 1) := by decide +kernel
theorem d63_26 : decode c63 26 = .ok (.aload 5, 2) := by decide +kernel
theorem d63_28 : decode c63 28 = .ok (.putfield 24, 3) := by decide +kernel
theorem d63_31 : decode c63 31 = .ok (.aload_n 0, 1) := by decide +kernel
theorem d63_32 : decode c63 32 = .ok (.aload 6, 2) := by decide +kernel
theorem d63_34 : decode c63 34 = .ok (.invokestatic 27, 3) := by decide +kernel
theorem d63_37 : decode c63 37 = .ok (.putfield 33, 3) := by decide +kernel
theorem d63_40 : decode c63 40 = .ok (.return_, 1) := by decide +kernel
theorem pn_com_example_mandoline_mandoline_ClangNode : plainName "com/example/mandoline/mandoline/ClangNode" = true := by first | (simp [plainName, overriddenIn]; done) | decide +kernel
theorem ef_rm_cn (m : MethodId) (mi1 : Addr) (mi2 : Addr) (mi3 : Addr) (cn : Addr) (ks : Addr) (ar : Addr) (al : Addr)  : entryFrame m #[(.ref cn), (.ref ks), (.ref ar), .null, .null, .null, (.ref al)] 7 = mkF m 0 #[vR cn, vR ks, vR ar, vN, vN, vN, vR al] [] := by  first | (simp [entryFrame, mkF, argsToLocals, Value.category, maxLocals]; done) | rfl
def Q_rm_cn (Z : State) (mi1 : Addr) (mi2 : Addr) (mi3 : Addr) (cn : Addr) (ks : Addr) (ar : Addr) (al : Addr) (h0 : Heap) (n0 : Nat) (v : Option Value) (h : Heap) (L : List Loc) : Prop := (v = none) ∧ (Fr n0 L) ∧ (Keep h0 h [cn])
theorem pd__Ljava_util_List__Ljava_util_List_ : parseMethodDescriptor "(Ljava/util/List;)Ljava/util/List;" = some ⟨[(.object "java/util/List")], (some (.object "java/util/List"))⟩ := by decide +kernel
set_option maxRecDepth 65536 in
set_option maxHeartbeats 40000000 in
theorem rm_cn (l : Launch) (Z : State) (a0 : Array Value) (hw : ∀ d ∈ tables_1, d.before a0 Z = true) (ws : List Jvm.Cond) (mi1 : Addr) (mi2 : Addr) (mi3 : Addr) (cn : Addr) (ks : Addr) (ar : Addr) (al : Addr) (h0 : Heap) (n0 : Nat) (Z0 : n0 ≤ h0.size) (M1 : own_Mir Z "java/util/ArrayList" mi1) (M2 : own_Mir Z "java/util/Collections$UnmodifiableList" mi2) (M3 : own_Mir Z "java/util/Collections$UnmodifiableRandomAccessList" mi3) (f3 : Exa Z h0 cn "com/example/mandoline/mandoline/ClangNode") (f4 : Fld Z h0 cn "com/example/mandoline/mandoline/ClangNode" "kind" "Ljava/lang/String;" .null) (f5 : Fld Z h0 cn "com/example/mandoline/mandoline/ClangNode" "attributes" "[Ljava/lang/String;" .null) (f6 : Fld Z h0 cn "com/example/mandoline/mandoline/ClangNode" "location" "Lcom/example/mandoline/mandoline/ClangLocation;" .null) (f7 : Fld Z h0 cn "com/example/mandoline/mandoline/ClangNode" "begin" "Lcom/example/mandoline/mandoline/ClangLocation;" .null) (f8 : Fld Z h0 cn "com/example/mandoline/mandoline/ClangNode" "end" "Lcom/example/mandoline/mandoline/ClangLocation;" .null) (f9 : Fld Z h0 cn "com/example/mandoline/mandoline/ClangNode" "children" "Ljava/util/List;" .null) (f10 : Exa Z h0 al "java/util/ArrayList") (gc : n0 ≤ cn) :
    MetN l Z y_69 c63 7 none ws (Rm 5 1 2 65) #[(.ref cn), (.ref ks), (.ref ar), .null, .null, .null, (.ref al)] h0 (Q_rm_cn Z mi1 mi2 mi3 cn ks ar al h0 n0) := by
 refine MetFree.of_bodySF (plainFor_of_name pn_com_example_mandoline_mandoline_ClangNode) hisR ?_
 intro p e s m args below meth c s₁ Bd hml0 hP hK
 obtain ⟨rfl, hZ, hh⟩ := hP
 have hx := Bd.exec
 have hby := Bd.bytes
 have hml : c.maxLocals = 7 := hml0
 have hown : s.vm.findClass "com/example/mandoline/mandoline/ClangNode" = some m.cls := findClass_of_methodNamed Bd.named
 have hnm := (name_of_methodNamed Bd.named Bd.method).1
 have X0 : Stand p l e (Rm 5 1 2 65) s m #[(.ref cn), (.ref ks), (.ref ar), .null, .null, .null, (.ref al)] below meth c s₁ [] 0 0 := Stand.of_body Bd
 have e0 : s₁.heap = h0 := by rw [← hh, Bd.state]; rfl
 have N0 := Fr.nil n0
 have K00 : Keep h0 h0 [cn] := Keep.refl _ _
 show Rch p e below s₁ (entryFrame m #[(.ref cn), (.ref ks), (.ref ar), .null, .null, .null, (.ref al)] 7) (FinP s (Q_rm_cn Z mi1 mi2 mi3 cn ks ar al h0 n0) 1 2)
 refine Rch.cast (ef_rm_cn m mi1 mi2 mi3 cn ks ar al) ?_
 show Rch p e below s₁ (mkF m 0 #[vR cn, vR ks, vR ar, vN, vN, vN, vR al] []) _
 refine w_aloadN (pc' := 1) X0 hx hby d63_0 rfl rfl rfl ?_
 obtain ⟨T2652, X2652, e2652, st2652⟩ := initO X0 hx hZ hown (wi hw 388 rfl) (wi hw 24 rfl) (wi hw 25 rfl) e0 (g := (mkF m 1 #[vR cn, vR ks, vR ar, vN, vN, vN, vR al] [(.ref cn)])) rfl (by rw [hml]; rfl) rfl (hb hby d63_1) (by decide) (W := 0) (by show 2 * 0 + _ ≤ _; exact Nat.le_of_eq rfl) (by decide)
 refine Rch.st (fun _ k => st2652 _ k) ?_
 show Rch p e below T2652 (mkF m 4 #[vR cn, vR ks, vR ar, vN, vN, vN, vR al] []) _
 refine w_aloadN (pc' := 5) X2652 hx hby d63_4 rfl rfl rfl ?_
 refine w_aloadN (pc' := 6) X2652 hx hby d63_5 rfl rfl rfl ?_
 obtain ⟨T2653, h2653, X2653, e2653, W2653, st2653⟩ := putF X2652 hx hZ hown (host := "") (Or.inl (wi hw 389 rfl)) Via.refl e2652 f4 f3 (Or.inr ⟨(wi hw 390 rfl), rfl, hnm⟩) (wi hw 341 rfl) (ty := (.object "java/lang/String")) (by decide) rfl rfl (g := (mkF m 6 #[vR cn, vR ks, vR ar, vN, vN, vN, vR al] [(.ref ks), (.ref cn)])) rfl rfl (hb hby d63_6)
 have N2654 := Fr.snoc X2653 N0 gc
 have f2655 := f3.wr W2653
 have f2657 := f5.other W2653 (Or.inr (slot_ne (t := (.array (.object "java/lang/String"))) (t' := (.object "java/lang/String")) (Or.inr (wi hw 392 rfl)) (Or.inr (wi hw 390 rfl)) (by decide) (by decide) (by decide)))
 have f2658 := f6.other W2653 (Or.inr (slot_ne (t := (.object "com/example/mandoline/mandoline/ClangLocation")) (t' := (.object "java/lang/String")) (Or.inr (wi hw 394 rfl)) (Or.inr (wi hw 390 rfl)) (by decide) (by decide) (by decide)))
 have f2659 := f7.other W2653 (Or.inr (slot_ne (t := (.object "com/example/mandoline/mandoline/ClangLocation")) (t' := (.object "java/lang/String")) (Or.inr (wi hw 396 rfl)) (Or.inr (wi hw 390 rfl)) (by decide) (by decide) (by decide)))
 have f2660 := f8.other W2653 (Or.inr (slot_ne (t := (.object "com/example/mandoline/mandoline/ClangLocation")) (t' := (.object "java/lang/String")) (Or.inr (wi hw 398 rfl)) (Or.inr (wi hw 390 rfl)) (by decide) (by decide) (by decide)))
 have f2661 := f9.other W2653 (Or.inr (slot_ne (t := (.object "java/util/List")) (t' := (.object "java/lang/String")) (Or.inr (wi hw 443 rfl)) (Or.inr (wi hw 390 rfl)) (by decide) (by decide) (by decide)))
 have f2662 := f10.wr W2653
 have Z2663 := Nat.le_trans Z0 (Keep.of_wr W2653).1
 have Kp2664 : Keep h0 h2653 [cn] := K00.wr W2653 (Or.inl (List.mem_of_getElem? (i := 0) rfl))
 refine Rch.st (fun _ k => st2653 _ k) ?_
 show Rch p e below T2653 (mkF m 9 #[vR cn, vR ks, vR ar, vN, vN, vN, vR al] []) _
 refine w_aloadN (pc' := 10) X2653 hx hby d63_9 rfl rfl rfl ?_
 refine w_aloadN (pc' := 11) X2653 hx hby d63_10 rfl rfl rfl ?_
 obtain ⟨T2665, h2665, X2665, e2665, W2665, st2665⟩ := putF X2653 hx hZ hown (host := "") (Or.inl (wi hw 391 rfl)) Via.refl e2653 f2657 f2655 (Or.inr ⟨(wi hw 392 rfl), rfl, hnm⟩) (wi hw 341 rfl) (ty := (.array (.object "java/lang/String"))) (by decide) rfl rfl (g := (mkF m 11 #[vR cn, vR ks, vR ar, vN, vN, vN, vR al] [(.ref ar), (.ref cn)])) rfl rfl (hb hby d63_11)
 have N2666 := Fr.snoc X2665 N2654 gc
 have f2667 := f2655.wr W2665
 have f2670 := f2658.other W2665 (Or.inr (slot_ne (t := (.object "com/example/mandoline/mandoline/ClangLocation")) (t' := (.array (.object "java/lang/String"))) (Or.inr (wi hw 394 rfl)) (Or.inr (wi hw 392 rfl)) (by decide) (by decide) (by decide)))
 have f2671 := f2659.other W2665 (Or.inr (slot_ne (t := (.object "com/example/mandoline/mandoline/ClangLocation")) (t' := (.array (.object "java/lang/String"))) (Or.inr (wi hw 396 rfl)) (Or.inr (wi hw 392 rfl)) (by decide) (by decide) (by decide)))
 have f2672 := f2660.other W2665 (Or.inr (slot_ne (t := (.object "com/example/mandoline/mandoline/ClangLocation")) (t' := (.array (.object "java/lang/String"))) (Or.inr (wi hw 398 rfl)) (Or.inr (wi hw 392 rfl)) (by decide) (by decide) (by decide)))
 have f2673 := f2661.other W2665 (Or.inr (slot_ne (t := (.object "java/util/List")) (t' := (.array (.object "java/lang/String"))) (Or.inr (wi hw 443 rfl)) (Or.inr (wi hw 392 rfl)) (by decide) (by decide) (by decide)))
 have f2674 := f2662.wr W2665
 have Z2675 := Nat.le_trans Z2663 (Keep.of_wr W2665).1
 have Kp2676 : Keep h0 h2665 [cn] := Kp2664.wr W2665 (Or.inl (List.mem_of_getElem? (i := 0) rfl))
 refine Rch.st (fun _ k => st2665 _ k) ?_
 show Rch p e below T2665 (mkF m 14 #[vR cn, vR ks, vR ar, vN, vN, vN, vR al] []) _
 refine w_aloadN (pc' := 15) X2665 hx hby d63_14 rfl rfl rfl ?_
 refine w_aloadN (pc' := 16) X2665 hx hby d63_15 rfl rfl rfl ?_
 obtain ⟨T2677, h2677, X2677, e2677, W2677, st2677⟩ := putF X2665 hx hZ hown (host := "") (Or.inl (wi hw 393 rfl)) Via.refl e2665 f2670 f2667 (Or.inr ⟨(wi hw 394 rfl), rfl, hnm⟩) (wi hw 341 rfl) (ty := (.object "com/example/mandoline/mandoline/ClangLocation")) (by decide) rfl rfl (g := (mkF m 16 #[vR cn, vR ks, vR ar, vN, vN, vN, vR al] [.null, (.ref cn)])) rfl rfl (hb hby d63_16)
 have N2678 := Fr.snoc X2677 N2666 gc
 have f2679 := f2667.wr W2677
 have f2683 := f2671.other W2677 (Or.inr (slot_ne (t := (.object "com/example/mandoline/mandoline/ClangLocation")) (t' := (.object "com/example/mandoline/mandoline/ClangLocation")) (Or.inr (wi hw 396 rfl)) (Or.inr (wi hw 394 rfl)) (by decide) (by decide) (by decide)))
 have f2684 := f2672.other W2677 (Or.inr (slot_ne (t := (.object "com/example/mandoline/mandoline/ClangLocation")) (t' := (.object "com/example/mandoline/mandoline/ClangLocation")) (Or.inr (wi hw 398 rfl)) (Or.inr (wi hw 394 rfl)) (by decide) (by decide) (by decide)))
 have f2685 := f2673.other W2677 (Or.inr (slot_ne (t := (.object "java/util/List")) (t' := (.object "com/example/mandoline/mandoline/ClangLocation")) (Or.inr (wi hw 443 rfl)) (Or.inr (wi hw 394 rfl)) (by decide) (by decide) (by decide)))
 have f2686 := f2674.wr W2677
 have Z2687 := Nat.le_trans Z2675 (Keep.of_wr W2677).1
 have Kp2688 : Keep h0 h2677 [cn] := Kp2676.wr W2677 (Or.inl (List.mem_of_getElem? (i := 0) rfl))
 refine Rch.st (fun _ k => st2677 _ k) ?_
 show Rch p e below T2677 (mkF m 19 #[vR cn, vR ks, vR ar, vN, vN, vN, vR al] []) _
 refine w_aloadN (pc' := 20) X2677 hx hby d63_19 rfl rfl rfl ?_
 refine w_aload (pc' := 22) X2677 hx hby d63_20 rfl rfl rfl ?_
 obtain ⟨T2689, h2689, X2689, e2689, W2689, st2689⟩ := putF X2677 hx hZ hown (host := "") (Or.inl (wi hw 395 rfl)) Via.refl e2677 f2683 f2679 (Or.inr ⟨(wi hw 396 rfl), rfl, hnm⟩) (wi hw 341 rfl) (ty := (.object "com/example/mandoline/mandoline/ClangLocation")) (by decide) rfl rfl (g := (mkF m 22 #[vR cn, vR ks, vR ar, vN, vN, vN, vR al] [.null, (.ref cn)])) rfl rfl (hb hby d63_22)
 have N2690 := Fr.snoc X2689 N2678 gc
 have f2691 := f2679.wr W2689
 have f2696 := f2684.other W2689 (Or.inr (slot_ne (t := (.object "com/example/mandoline/mandoline/ClangLocation")) (t' := (.object "com/example/mandoline/mandoline/ClangLocation")) (Or.inr (wi hw 398 rfl)) (Or.inr (wi hw 396 rfl)) (by decide) (by decide) (by decide)))
 have f2697 := f2685.other W2689 (Or.inr (slot_ne (t := (.object "java/util/List")) (t' := (.object "com/example/mandoline/mandoline/ClangLocation")) (Or.inr (wi hw 443 rfl)) (Or.inr (wi hw 396 rfl)) (by decide) (by decide) (by decide)))
 have f2698 := f2686.wr W2689
 have Z2699 := Nat.le_trans Z2687 (Keep.of_wr W2689).1
 have Kp2700 : Keep h0 h2689 [cn] := Kp2688.wr W2689 (Or.inl (List.mem_of_getElem? (i := 0) rfl))
 refine Rch.st (fun _ k => st2689 _ k) ?_
 show Rch p e below T2689 (mkF m 25 #[vR cn, vR ks, vR ar, vN, vN, vN, vR al] []) _
 refine w_aloadN (pc' := 26) X2689 hx hby d63_25 rfl rfl rfl ?_
 refine w_aload (pc' := 28) X2689 hx hby d63_26 rfl rfl rfl ?_
 obtain ⟨T2701, h2701, X2701, e2701, W2701, st2701⟩ := putF X2689 hx hZ hown (host := "") (Or.inl (wi hw 397 rfl)) Via.refl e2689 f2696 f2691 (Or.inr ⟨(wi hw 398 rfl), rfl, hnm⟩) (wi hw 341 rfl) (ty := (.object "com/example/mandoline/mandoline/ClangLocation")) (by decide) rfl rfl (g := (mkF m 28 #[vR cn, vR ks, vR ar, vN, vN, vN, vR al] [.null, (.ref cn)])) rfl rfl (hb hby d63_28)
 have N2702 := Fr.snoc X2701 N2690 gc
 have f2703 := f2691.wr W2701
 have f2709 := f2697.other W2701 (Or.inr (slot_ne (t := (.object "java/util/List")) (t' := (.object "com/example/mandoline/mandoline/ClangLocation")) (Or.inr (wi hw 443 rfl)) (Or.inr (wi hw 398 rfl)) (by decide) (by decide) (by decide)))
 have f2710 := f2698.wr W2701
 have Z2711 := Nat.le_trans Z2699 (Keep.of_wr W2701).1
 have Kp2712 : Keep h0 h2701 [cn] := Kp2700.wr W2701 (Or.inl (List.mem_of_getElem? (i := 0) rfl))
 refine Rch.st (fun _ k => st2701 _ k) ?_
 show Rch p e below T2701 (mkF m 31 #[vR cn, vR ks, vR ar, vN, vN, vN, vR al] []) _
 refine w_aloadN (pc' := 32) X2701 hx hby d63_31 rfl rfl rfl ?_
 refine w_aload (pc' := 34) X2701 hx hby d63_32 rfl rfl rfl ?_
 obtain ⟨_, _, ⟨T2713, L2713, k2713, n2713⟩, -, X2713, ⟨Lc2713, hQ2713, l2713, y2713, z2713⟩, st2713⟩ := Jvm.LawKit.callS X2701 hx (y := y_67) hown (mvT hZ (wi hw 399 rfl)) (mvT hZ (wi hw 400 rfl)) (mvT hZ (wi hw 401 rfl)) (mvT hZ (wi hw 402 rfl)) (by decide) (backOf (W := 1) (rm_ul l Z a0 hw [] mi1 mi2 mi3 al h2701 n0 Z2711 (M1) (M2) (M3) f2710) hZ (wi hw 402 rfl) (wi hw 401 rfl) (by decide) (by decide)) (g := (mkF m 34 #[vR cn, vR ks, vR ar, vN, vN, vN, vR al] [(.ref al), (.ref cn)])) rfl (by rw [hml]; rfl) (argsL := [(.ref al)]) (rest := [(.ref cn)]) (lenOf pd__Ljava_util_List__Ljava_util_List_ rfl) rfl (by show 2 * 0 + _ ≤ _; exact Nat.le_of_eq rfl) (hb hby d63_34) (fun _ _ => ⟨rfl, e2701, (by decide : 0 + 1 ≤ _), (by decide : 0 + 2 ≤ _)⟩)
 dsimp only [Pt.U, Pt.locs, Pt.cells, Pt.slots] at X2713 l2713 y2713 z2713 st2713 hQ2713
 subst l2713 y2713 z2713
 obtain ⟨r_2713, rfl, NQ2713, K2713⟩ := hQ2713
 have N2714 := Fr.app N2702 NQ2713
 have f2715 := f2703.keep K2713
 have f2721 := f2709.keep K2713 nin0
 have Kp2723 : Keep h0 T2713.heap [cn] := Kp2712.trans K2713 all0
 refine Rch.st (fun _ k => st2713 _ k) ?_
 show Rch p e below T2713 (mkF m 37 #[vR cn, vR ks, vR ar, vN, vN, vN, vR al] [(.ref r_2713), (.ref cn)]) _
 obtain ⟨T2725, h2725, X2725, e2725, W2725, st2725⟩ := putF X2713 hx hZ hown (host := "") (Or.inl (wi hw 442 rfl)) Via.refl (rfl : T2713.heap = T2713.heap) f2721 f2715 (Or.inr ⟨(wi hw 443 rfl), rfl, hnm⟩) (wi hw 341 rfl) (ty := (.object "java/util/List")) (by decide) rfl rfl (g := (mkF m 37 #[vR cn, vR ks, vR ar, vN, vN, vN, vR al] [(.ref r_2713), (.ref cn)])) rfl rfl (hb hby d63_37)
 have N2726 := Fr.snoc X2725 N2714 gc
 have Kp2736 : Keep h0 h2725 [cn] := Kp2723.wr W2725 (Or.inl (List.mem_of_getElem? (i := 0) rfl))
 refine Rch.st (fun _ k => st2725 _ k) ?_
 show Rch p e below T2725 (mkF m 40 #[vR cn, vR ks, vR ar, vN, vN, vN, vR al] []) _
 exact Rch.ret0 X2725 hx Bd.returns (hb hby d63_40) (by rw [e2725]; exact ⟨rfl, N2726, Kp2736⟩) (by decide) (by decide)

theorem pn_com_example_mandoline_mandoline_VariableDeclaringStatementPinLaw : plainName "com/example/mandoline/mandoline/VariableDeclaringStatementPinLaw" = true := by first | (simp [plainName, overriddenIn]; done) | decide +kernel
theorem ef_rm_law (m : MethodId) (G1 : Int32) (G6 : Addr) (G7 : Addr) (mi1 : Addr) (mi2 : Addr) (mi3 : Addr) (wa : Int32) (wb : Int32) (wc : Int32) (wd : Int32)  : entryFrame m #[(.int wa), (.int wb), (.int wc), (.int wd)] maxLocals = mkF m 0 #[vI wa, vI wb, vI wc, vI wd, U, U, U, U, U, U, U, U] [] := by  first | (simp [entryFrame, mkF, argsToLocals, Value.category, maxLocals]; done) | rfl
def Q_rm_law (Z : State) (G1 : Int32) (G6 : Addr) (G7 : Addr) (mi1 : Addr) (mi2 : Addr) (mi3 : Addr) (wa : Int32) (wb : Int32) (wc : Int32) (wd : Int32) (h0 : Heap) (n0 : Nat) (v : Option Value) (h : Heap) (vm : Vm) (L : List Loc) : Prop := (v = some (.int (1 : Int32))) ∧ (Fr n0 L) ∧ (Keep h0 h []) ∧ (IB Z vm (["."] : List String))
theorem pd___C_V : parseMethodDescriptor "([C)V" = some ⟨[(.array .char)], none⟩ := by decide +kernel
theorem pd__Ljava_lang_String__Ljava_lang_String_Lcom_example_mandoline_mandoline_ClangLocation_Lcom_example_mandoline_mandoline_ClangLocation_Lcom_example_mandoline_mandoline_ClangLocation_Ljava_util_List__V : parseMethodDescriptor "(Ljava/lang/String;[Ljava/lang/String;Lcom/example/mandoline/mandoline/ClangLocation;Lcom/example/mandoline/mandoline/ClangLocation;Lcom/example/mandoline/mandoline/ClangLocation;Ljava/util/List;)V" = some ⟨[(.object "java/lang/String"), (.array (.object "java/lang/String")), (.object "com/example/mandoline/mandoline/ClangLocation"), (.object "com/example/mandoline/mandoline/ClangLocation"), (.object "com/example/mandoline/mandoline/ClangLocation"), (.object "java/util/List")], none⟩ := by decide +kernel
theorem pd__C_Ljava_lang_String_ : parseMethodDescriptor "(C)Ljava/lang/String;" = some ⟨[.char], (some (.object "java/lang/String"))⟩ := by decide +kernel
theorem pd__Ljava_lang_String_Lcom_example_mandoline_mandoline_ClangNode__V : parseMethodDescriptor "(Ljava/lang/String;Lcom/example/mandoline/mandoline/ClangNode;)V" = some ⟨[(.object "java/lang/String"), (.object "com/example/mandoline/mandoline/ClangNode")], none⟩ := by decide +kernel
theorem pd__Ljava_lang_String_Ljava_lang_String__V : parseMethodDescriptor "(Ljava/lang/String;Ljava/lang/String;)V" = some ⟨[(.object "java/lang/String"), (.object "java/lang/String")], none⟩ := by decide +kernel
theorem pd__Lcom_example_mandoline_mandoline_Place_Field__Lcom_example_mandoline_mandoline_Variable_ : parseMethodDescriptor "(Lcom/example/mandoline/mandoline/Place$Field;)Lcom/example/mandoline/mandoline/Variable;" = some ⟨[(.object "com/example/mandoline/mandoline/Place$Field")], (some (.object "com/example/mandoline/mandoline/Variable"))⟩ := by decide +kernel
set_option maxRecDepth 65536 in
set_option maxHeartbeats 40000000 in
theorem rm_law (l : Launch) (Z : State) (a0 : Array Value) (hw : ∀ d ∈ tables_1, d.before a0 Z = true) (ws : List Jvm.Cond) (G1 : Int32) (G6 : Addr) (G7 : Addr) (mi1 : Addr) (mi2 : Addr) (mi3 : Addr) (wa : Int32) (wb : Int32) (wc : Int32) (wd : Int32) (h0 : Heap) (n0 : Nat) (Z0 : n0 ≤ h0.size) (O2 : Sta Z Z.heap "java/lang/String" "COMPACT_STRINGS" "Z" (.int G1)) (P5 : ¬ G1 = 0) (O6 : Sta Z Z.heap "java/util/ImmutableCollections" "EMPTY_LIST" "Ljava/util/ImmutableCollections$ListN;" (.ref G6)) (O7 : Sta Z Z.heap "java/util/ArrayList" "DEFAULTCAPACITY_EMPTY_ELEMENTDATA" "[Ljava/lang/Object;" (.ref G7)) (M1 : own_Mir Z "java/util/ArrayList" mi1) (M2 : own_Mir Z "java/util/Collections$UnmodifiableList" mi2) (M3 : own_Mir Z "java/util/Collections$UnmodifiableRandomAccessList" mi3) (H131 : Jvm.Lit.constHeld Z "com/example/mandoline/mandoline/Variable" 131) (hcw : Jvm.Lit.compactW.before a0 Z = true) (Old0 : OldL Z n0 h0) :
    MetFree l x (head1 (Jvm.Cond.code x code maxLocals ret :: ws) room_1) (fun a U => a = #[(.int wa), (.int wb), (.int wc), (.int wd)] ∧ Z.Warmed39 U.vm ∧ U.heap = h0 ∧ IB Z U.vm ([] : List String)) (fun _ _ _ _ _ => True) (fun _ U o U' => ∃ v L, o = .returned v ∧ Q_rm_law Z G1 G6 G7 mi1 mi2 mi3 wa wb wc wd h0 n0 v U'.heap U'.vm L ∧ ReturnedEndW U o U' L 88 1536) := by
 refine MetFree.of_bodySF (plainFor_of_name pn_com_example_mandoline_mandoline_VariableDeclaringStatementPinLaw) hisR ?_
 intro p e s m args below meth c s₁ Bd hml0 hP hK
 obtain ⟨rfl, hZ, hh, hI⟩ := hP
 have hx := Bd.exec
 have hby := Bd.bytes
 have hml : c.maxLocals = 12 := hml0
 have hown : s.vm.findClass "com/example/mandoline/mandoline/VariableDeclaringStatementPinLaw" = some m.cls := findClass_of_methodNamed Bd.named
 have X0 : Stand p l e room_1 (s.setVm s.vm) m #[(.int wa), (.int wb), (.int wc), (.int wd)] below meth c s₁ [] 0 0 := Stand.of_body Bd
 have e0 : s₁.heap = h0 := by rw [← hh, Bd.state]; rfl
 have N0 := Fr.nil n0
 have K00 : Keep h0 h0 [] := Keep.refl _ _
 have hS0 : s.Since s.vm s.heap.size := (State.WarmedH.refl s).since _
 have hk0 : s.heap.size ≤ h0.size := by rw [hh]; exact Nat.le_refl _
 have hkeep : ∀ (b : Addr) (cl : Cell), Z.heap[b]? = some cl → s.heap[b]? = some cl := by rw [hh]; exact Old0.2.2
 show Rch p e below s₁ (entryFrame m #[(.int wa), (.int wb), (.int wc), (.int wd)] maxLocals) (FinW s (Q_rm_law Z G1 G6 G7 mi1 mi2 mi3 wa wb wc wd h0 n0) 88 1536)
 refine Rch.cast (ef_rm_law m G1 G6 G7 mi1 mi2 mi3 wa wb wc wd) ?_
 have Z0f := Nat.le_refl h0.size
 have N0f := Fr.nil h0.size
 have OldF := Old0.up Z0
 show Rch p e below s₁ (mkF m 0 #[vI wa, vI wb, vI wc, vI wd, U, U, U, U, U, U, U, U] []) _
 refine w_iloadN (pc' := 1) X0 hx hby at_0 rfl rfl ?_
 refine w_iconst (pc' := 2) (v := 1) X0 hx hby at_1 rfl rfl ?_
 refine w_iand (pc' := 3) X0 hx hby at_2 rfl ?_
 have Jlb : ∀ (lb : Int32),  Rch p e below s₁ (mkF m 11 #[vI wa, vI wb, vI wc, vI wd, U, U, U, U, U, U, U, U] [(.int lb)]) (FinW s (Q_rm_law Z G1 G6 G7 mi1 mi2 mi3 wa wb wc wd h0 n0) 88 1536) := by
  intro lb
  refine w_istore (pc' := 13) (l' := #[vI wa, vI wb, vI wc, vI wd, vI lb, U, U, U, U, U, U, U]) X0 hx hby at_11 rfl rfl ?_
  refine w_iconst (pc' := 14) (v := 1) X0 hx hby at_13 rfl rfl ?_
  obtain ⟨T2737, h2737, kc2737, X2737, e2737, E2737, A2737, st2737⟩ := newP X0 hx hZ (wi hw 0 rfl) e0 (g := (mkF m 14 #[vI wa, vI wb, vI wc, vI wd, vI lb, U, U, U, U, U, U, U] [(.int 1)])) rfl (hb hby at_14) rfl (by decide : ¬ ((1 : Int32) < (0 : Int32))) (cap := 1) (by decide : (1 : Int32).toNatClampNeg ≤ 1) (by decide) (by decide) (by decide)
  obtain ⟨a2737, g2737⟩ : ∃ z, z = h0.size := ⟨_, rfl⟩
  rw [← g2737] at A2737 st2737
  have ge2738 : h0.size ≤ a2737 := Nat.le_trans Z0f (Nat.le_of_eq g2737.symm)
  have hk2740 := Nat.le_trans hk0 E2737.1
  have Old2741 := OldF.ext E2737
  have Z2742 := Nat.le_trans Z0f E2737.1
  have Kp2743 : Keep h0 h2737 [] := K00.ext E2737
  have f2744 : Arv Z h2737 a2737 kc2737 .char (1 : Int32) [(.int (0 : Int32))] (.int (0 : Int32)) := (Arv.new A2737 (by decide : ¬ ((1 : Int32) < (0 : Int32)))).pad (pad_rep [] (.int (0 : Int32)) 1)
  refine Rch.st (fun _ k => st2737 _ k) ?_
  show Rch p e below T2737 (mkF m 16 #[vI wa, vI wb, vI wc, vI wd, vI lb, U, U, U, U, U, U, U] [(.ref a2737)]) _
  refine w_dup (pc' := 17) X2737 hx hby at_16 rfl rfl ?_
  refine w_iconst (pc' := 18) (v := 0) X2737 hx hby at_17 rfl rfl ?_
  refine w_iloadN (pc' := 19) X2737 hx hby at_18 rfl rfl ?_
  refine w_iconst (pc' := 20) (v := 1) X2737 hx hby at_19 rfl rfl ?_
  refine w_iushr (pc' := 21) X2737 hx hby at_20 rfl ?_
  refine w_sipush (pc' := 24) (v := 255) X2737 hx hby at_21 rfl rfl ?_
  refine w_iand (pc' := 25) X2737 hx hby at_24 rfl ?_
  refine w_i2c (pc' := 26) X2737 hx hby at_25 rfl ?_
  have ch_qa := own_ch8 (XT.ushr wa (1 : Int32))
  obtain ⟨qa, hv_qa⟩ : ∃ z, z = (nar .char ((XT.ushr wa (1 : Int32)) &&& (255 : Int32))) := ⟨_, rfl⟩
  rw [← hv_qa]
  show Rch p e below T2737 (mkF m 26 #[vI wa, vI wb, vI wc, vI wd, vI lb, U, U, U, U, U, U, U] [(.int qa), (.int 0), (.ref a2737), (.ref a2737)]) _
  rw [← hv_qa] at ch_qa
  obtain ⟨T2745, h2745, X2745, e2745, W2745, V2745, st2745⟩ := own_stC X2737 hx hZ e2737 f2744 (j := (0 : Int32)) ⟨by decide, by decide⟩ 0 (by decide) (by decide : 0 < 1) (g := (mkF m 26 #[vI wa, vI wb, vI wc, vI wd, vI lb, U, U, U, U, U, U, U] [(.int qa), (.int 0), (.ref a2737), (.ref a2737)])) rfl rfl (hb hby at_26)
  have N2746 := Fr.snoc X2745 N0f ge2738
  have Old2747 := Old2741.wr W2745 ge2738
  have Z2748 := Nat.le_trans Z2742 (Keep.of_wr W2745).1
  have hk2749 := Nat.le_trans hk2740 (Keep.of_wr W2745).1
  have Kp2750 : Keep h0 h2745 [] := Kp2743.wr W2745 (Or.inr (Nat.le_trans K00.1 (Nat.le_of_eq g2737.symm)))
  have f2751 : Arv Z h2745 a2737 kc2737 .char (1 : Int32) [(.int (nar .char qa))] (.int (0 : Int32)) := V2745
  refine Rch.st (fun _ k => st2745 _ k) ?_
  show Rch p e below T2745 (mkF m 27 #[vI wa, vI wb, vI wc, vI wd, vI lb, U, U, U, U, U, U, U] [(.ref a2737)]) _
  have f2752 : Arv Z h2745 a2737 kc2737 .char (1 : Int32) [(.int qa)] (.int (0 : Int32)) := by have z := f2751; rw [ch_qa.nr] at z; exact z
  refine w_astore (pc' := 29) (l' := #[vI wa, vI wb, vI wc, vI wd, vI lb, vR a2737, U, U, U, U, U, U]) X2745 hx hby at_27 rfl rfl rfl ?_
  refine w_iload (pc' := 31) X2745 hx hby at_29 rfl rfl ?_
  have J : ∀ (Tj : State) (lcj : List Loc) (hj : Heap) (st : Value), (Stand p l e room_1 (s.setVm s.vm) m #[(.int wa), (.int wb), (.int wc), (.int wd)] below meth c Tj lcj 7 17) → (Tj.heap = hj) → (Fr h0.size lcj) → (OldL Z h0.size hj) → (h0.size ≤ hj.size) → (Keep h0 hj []) → (s.heap.size ≤ hj.size) → (st.isRef = true) →  Rch p e below Tj (mkF m 68 #[vI wa, vI wb, vI wc, vI wd, vI lb, vR a2737, U, U, U, U, U, U] [st]) (FinW s (Q_rm_law Z G1 G6 G7 mi1 mi2 mi3 wa wb wc wd h0 n0) 88 1536) := by
   intro Tj lcj hj st XJ eJ NJ OldJ ZJ KJ hkJ hst
   refine Rch.st (fun _ k => XS.astoreS XJ.here hx rfl (hb hby at_68) rfl hst (XT.cat1 hst) rfl (Or.inl rfl) k) ?_
   show Rch p e below Tj (mkF m 70 #[vI wa, vI wb, vI wc, vI wd, vI lb, vR a2737, .val st, U, U, U, U, U] []) _
   obtain ⟨T2891, h2891, X2891, e2891, E2891, A2891, D2891, -, st2891⟩ := newO XJ hx hZ hown (wi hw 1 rfl) (wi hw 2 rfl) (wi hw 3 rfl) eJ (g := (mkF m 70 #[vI wa, vI wb, vI wc, vI wd, vI lb, vR a2737, .val st, U, U, U, U, U] [])) rfl (hb hby at_70) (by decide) (by decide)
   obtain ⟨a2891, g2891⟩ : ∃ z, z = hj.size := ⟨_, rfl⟩
   rw [← g2891] at A2891 D2891 st2891
   have ge2892 : h0.size ≤ a2891 := Nat.le_trans ZJ (Nat.le_of_eq g2891.symm)
   have hk2894 := Nat.le_trans hkJ E2891.1
   have Old2895 := OldJ.ext E2891
   have Z2896 := Nat.le_trans ZJ E2891.1
   have Kp2897 : Keep h0 h2891 [] := KJ.ext E2891
   have f2898 : Fld Z h2891 a2891 "com/example/mandoline/mandoline/Variable" "fields" "Ljava/util/Map;" .null := D2891 (Or.inr (wi hw 64 rfl)) (ty := (.object "java/util/Map")) (by decide)
   have f2899 : Fld Z h2891 a2891 "com/example/mandoline/mandoline/Variable" "declarationNodes" "Ljava/util/List;" .null := D2891 (Or.inl (wi hw 72 rfl)) (ty := (.object "java/util/List")) (by decide)
   have f2900 : Fld Z h2891 a2891 "com/example/mandoline/mandoline/Variable" "name" "Ljava/lang/String;" .null := D2891 (Or.inr (wi hw 74 rfl)) (ty := (.object "java/lang/String")) (by decide)
   have f2901 : Fld Z h2891 a2891 "com/example/mandoline/mandoline/Variable" "declaringStatement" "Lcom/example/mandoline/mandoline/ClangNode;" .null := D2891 (Or.inr (wi hw 76 rfl)) (ty := (.object "com/example/mandoline/mandoline/ClangNode")) (by decide)
   have f2902 : Fld Z h2891 a2891 "com/example/mandoline/mandoline/Variable" "function" "Ljava/lang/String;" .null := D2891 (Or.inr (wi hw 78 rfl)) (ty := (.object "java/lang/String")) (by decide)
   have f2903 : Fld Z h2891 a2891 "com/example/mandoline/mandoline/Variable" "containing" "Lcom/example/mandoline/mandoline/Variable;" .null := D2891 (Or.inr (wi hw 80 rfl)) (ty := (.object "com/example/mandoline/mandoline/Variable")) (by decide)
   refine Rch.st (fun _ k => st2891 _ k) ?_
   show Rch p e below T2891 (mkF m 73 #[vI wa, vI wb, vI wc, vI wd, vI lb, vR a2737, .val st, U, U, U, U, U] [(.ref a2891)]) _
   refine w_dup (pc' := 74) X2891 hx hby at_73 rfl rfl ?_
   refine w_iloadN (pc' := 75) X2891 hx hby at_74 rfl rfl ?_
   refine w_sipush (pc' := 78) (v := 255) X2891 hx hby at_75 rfl rfl ?_
   refine w_iand (pc' := 79) X2891 hx hby at_78 rfl ?_
   refine w_i2c (pc' := 80) X2891 hx hby at_79 rfl ?_
   have ch_c0 := own_ch8 wb
   obtain ⟨c0, hv_c0⟩ : ∃ z, z = (nar .char (wb &&& (255 : Int32))) := ⟨_, rfl⟩
   rw [← hv_c0]
   show Rch p e below T2891 (mkF m 80 #[vI wa, vI wb, vI wc, vI wd, vI lb, vR a2737, .val st, U, U, U, U, U] [(.int c0), (.ref a2891), (.ref a2891)]) _
   rw [← hv_c0] at ch_c0
   obtain ⟨_, _, ⟨T2904, L2904, k2904, n2904⟩, -, X2904, ⟨Lc2904, hQ2904, l2904, y2904, z2904⟩, st2904⟩ := Jvm.LawKit.callS X2891 hx (y := y_28) hown (mvT hZ (wi hw 4 rfl)) (mvT hZ (wi hw 5 rfl)) (mvT hZ (wi hw 6 rfl)) (mvT hZ (wi hw 7 rfl)) (by decide) (backOf (W := 2) (rm_vo l Z a0 hw [] G1 c0 h2891 h0.size Z2896 (O2) (P5) (ch_c0.le) Old2895) hZ (wi hw 7 rfl) (wi hw 6 rfl) (by decide) (by decide)) (g := (mkF m 80 #[vI wa, vI wb, vI wc, vI wd, vI lb, vR a2737, .val st, U, U, U, U, U] [(.int c0), (.ref a2891), (.ref a2891)])) rfl (by rw [hml]; rfl) (argsL := [(.int c0)]) (rest := [(.ref a2891), (.ref a2891)]) (lenOf pd__C_Ljava_lang_String_ rfl) rfl (by show 2 * 0 + _ ≤ _; exact Nat.le_of_eq rfl) (hb hby at_80) (fun _ _ => ⟨rfl, e2891, (by decide : 8 + 2 ≤ _), (by decide : 23 + 5 ≤ _)⟩)
   dsimp only [Pt.U, Pt.locs, Pt.cells, Pt.slots] at X2904 l2904 y2904 z2904 st2904 hQ2904
   subst l2904 y2904 z2904
   obtain ⟨ra_2904, t_2904, kt_2904, rfl, NQ2904, K2904, pq2904_0, pq2904_1, fq2904_0, fq2904_1, fq2904_2, fq2904_3, fq2904_4, fq2904_5⟩ := hQ2904
   have N2905 := Fr.app NJ NQ2904
   have ne2906 := nlt A2891.lt pq2904_0
   have ne2908 := nlt A2891.lt pq2904_1
   have f2910 := A2891.keep K2904
   have f2911 := f2898.keep K2904 nin0
   have f2912 := f2899.keep K2904 nin0
   have f2913 := f2900.keep K2904 nin0
   have f2914 := f2901.keep K2904 nin0
   have f2915 := f2902.keep K2904 nin0
   have f2916 := f2903.keep K2904 nin0
   have Old2917 := Old2895.keep K2904 all0
   have Kp2918 : Keep h0 T2904.heap [] := Kp2897.trans K2904 all0
   have Z2919 := Nat.le_trans Z2896 K2904.1
   have hk2920 := Nat.le_trans hk2894 K2904.1
   refine Rch.st (fun _ k => st2904 _ k) ?_
   show Rch p e below T2904 (mkF m 83 #[vI wa, vI wb, vI wc, vI wd, vI lb, vR a2737, .val st, U, U, U, U, U] [(.ref ra_2904), (.ref a2891), (.ref a2891)]) _
   refine w_aload (pc' := 85) X2904 hx hby at_83 rfl hst rfl ?_
   obtain ⟨_, _, ⟨T2921, L2921, k2921, n2921⟩, -, X2921, ⟨Lc2921, hQ2921, l2921, y2921, z2921⟩, st2921⟩ := X2904.specialBack hx (y := y_59) rfl hown (mvT hZ (wi hw 30 rfl)) (mvT hZ (wi hw 31 rfl)) (mvT hZ (wi hw 32 rfl)) (by decide) (backOf (W := 1) (rm_v2 l Z a0 hw [] G6 a2891 ra_2904 st T2904.heap h0.size Z2919 (O6) f2910 f2911 f2912 f2913 f2914 f2915 f2916 (ge2892) (hst) Old2917) hZ (wi hw 32 rfl) (wi hw 3 rfl) (by decide) (by decide)) (g := (mkF m 85 #[vI wa, vI wb, vI wc, vI wd, vI lb, vR a2737, .val st, U, U, U, U, U] [st, (.ref ra_2904), (.ref a2891), (.ref a2891)])) rfl (by rw [hml]; rfl) (Steps.refl _) (a := a2891) (argsL := [(.ref ra_2904), st]) (rest := [(.ref a2891)]) (lenOf pd__Ljava_lang_String_Lcom_example_mandoline_mandoline_ClangNode__V rfl) rfl (by show 2 * 0 + _ ≤ _; exact Nat.le_of_eq rfl) (hb hby at_85) (fun _ _ => ⟨rfl, (rfl : T2904.heap = T2904.heap), (by decide : 10 + 1 ≤ _), (by decide : 28 + 12 ≤ _)⟩)
   dsimp only [Pt.U, Pt.locs, Pt.cells, Pt.slots] at X2921 l2921 y2921 z2921 st2921 hQ2921
   subst l2921 y2921 z2921
   obtain ⟨m2_2921, rfl, NQ2921, K2921, pq2921_0, fq2921_0, fq2921_1, fq2921_2, fq2921_3, fq2921_4, fq2921_5, fq2921_6, fq2921_7, fq2921_8, fq2921_9, fq2921_10, fq2921_11, fq2921_12⟩ := hQ2921
   have N2922 := Fr.app N2905 NQ2921
   have ne2923 := nlt f2910.lt pq2921_0
   have ge2926 : h0.size ≤ m2_2921 := Nat.le_trans Z2919 pq2921_0
   have f2927 := f2910.keep K2921
   have f2928 := fq2904_0.keep K2921
   have f2929 := fq2904_1.keep K2921 (ninS (Ne.symm ne2906) nin0)
   have f2930 := fq2904_2.keep K2921 (ninS (Ne.symm ne2906) nin0)
   have f2933 := fq2904_5.keep K2921 (ninS (Ne.symm ne2908) nin0)
   have Old2934 := Old2917.keep K2921 (allS ge2892 all0)
   have Kp2935 : Keep h0 T2921.heap [] := Kp2918.trans K2921 (allS (Or.inr (Nat.le_trans KJ.1 (Nat.le_of_eq g2891.symm))) all0)
   have Z2936 := Nat.le_trans Z2919 K2921.1
   have hk2937 := Nat.le_trans hk2920 K2921.1
   refine Rch.st (fun _ k => st2921.trans k) ?_
   show Rch p e below T2921 (mkF m 88 #[vI wa, vI wb, vI wc, vI wd, vI lb, vR a2737, .val st, U, U, U, U, U] [(.ref a2891)]) _
   refine w_astore (pc' := 90) (l' := #[vI wa, vI wb, vI wc, vI wd, vI lb, vR a2737, .val st, vR a2891, U, U, U, U]) X2921 hx hby at_88 rfl rfl rfl ?_
   obtain ⟨T2938, h2938, X2938, e2938, E2938, A2938, D2938, -, st2938⟩ := newO X2921 hx hZ hown (wi hw 81 rfl) (wi hw 82 rfl) (wi hw 83 rfl) (rfl : T2921.heap = T2921.heap) (g := (mkF m 90 #[vI wa, vI wb, vI wc, vI wd, vI lb, vR a2737, .val st, vR a2891, U, U, U, U] [])) rfl (hb hby at_90) (by decide) (by decide)
   obtain ⟨a2938, g2938⟩ : ∃ z, z = T2921.heap.size := ⟨_, rfl⟩
   rw [← g2938] at A2938 D2938 st2938
   have ne2939 : a2891 ≠ a2938 := by rw [g2938]; exact Nat.ne_of_lt f2927.lt
   have ne2940 : m2_2921 ≠ a2938 := by rw [g2938]; exact Nat.ne_of_lt fq2921_5.lt
   have ne2941 : ra_2904 ≠ a2938 := by rw [g2938]; exact Nat.ne_of_lt f2928.lt
   have ne2942 : t_2904 ≠ a2938 := by rw [g2938]; exact Nat.ne_of_lt f2933.lt
   have ge2943 : h0.size ≤ a2938 := Nat.le_trans Z2936 (Nat.le_of_eq g2938.symm)
   have hk2945 := Nat.le_trans hk2937 E2938.1
   have f2946 := f2927.ext E2938
   have f2947 := f2928.ext E2938
   have f2948 := f2929.ext E2938
   have f2949 := f2930.ext E2938
   have f2952 := f2933.ext E2938
   have f2953 := fq2921_0.ext E2938
   have f2954 := fq2921_1.ext E2938
   have f2956 := fq2921_3.ext E2938
   have f2957 := fq2921_4.ext E2938
   have f2958 := fq2921_5.ext E2938
   have f2959 := fq2921_6.ext E2938
   have f2960 := fq2921_7.ext E2938
   have f2961 := fq2921_8.ext E2938
   have f2962 := fq2921_9.ext E2938
   have f2963 := fq2921_10.ext E2938
   have f2964 := fq2921_11.ext E2938
   have f2965 := fq2921_12.ext E2938
   have Old2966 := Old2934.ext E2938
   have Z2967 := Nat.le_trans Z2936 E2938.1
   have Kp2968 : Keep h0 h2938 [] := Kp2935.ext E2938
   have f2969 : Fld Z h2938 a2938 "com/example/mandoline/mandoline/Place$Field" "key" "Ljava/lang/String;" .null := D2938 (Or.inr (wi hw 94 rfl)) (ty := (.object "java/lang/String")) (by decide)
   have f2970 : Fld Z h2938 a2938 "com/example/mandoline/mandoline/Place$Field" "name" "Ljava/lang/String;" .null := D2938 (Or.inr (wi hw 96 rfl)) (ty := (.object "java/lang/String")) (by decide)
   refine Rch.st (fun _ k => st2938 _ k) ?_
   show Rch p e below T2938 (mkF m 93 #[vI wa, vI wb, vI wc, vI wd, vI lb, vR a2737, .val st, vR a2891, U, U, U, U] [(.ref a2938)]) _
   refine w_dup (pc' := 94) X2938 hx hby at_93 rfl rfl ?_
   refine w_iloadN (pc' := 95) X2938 hx hby at_94 rfl rfl ?_
   refine w_sipush (pc' := 98) (v := 255) X2938 hx hby at_95 rfl rfl ?_
   refine w_iand (pc' := 99) X2938 hx hby at_98 rfl ?_
   refine w_i2c (pc' := 100) X2938 hx hby at_99 rfl ?_
   have ch_k1 := own_ch8 wc
   obtain ⟨k1, hv_k1⟩ : ∃ z, z = (nar .char (wc &&& (255 : Int32))) := ⟨_, rfl⟩
   rw [← hv_k1]
   show Rch p e below T2938 (mkF m 100 #[vI wa, vI wb, vI wc, vI wd, vI lb, vR a2737, .val st, vR a2891, U, U, U, U] [(.int k1), (.ref a2938), (.ref a2938)]) _
   rw [← hv_k1] at ch_k1
   obtain ⟨_, _, ⟨T2971, L2971, k2971, n2971⟩, -, X2971, ⟨Lc2971, hQ2971, l2971, y2971, z2971⟩, st2971⟩ := Jvm.LawKit.callS X2938 hx (y := y_28) hown (mvT hZ (wi hw 4 rfl)) (mvT hZ (wi hw 5 rfl)) (mvT hZ (wi hw 6 rfl)) (mvT hZ (wi hw 7 rfl)) (by decide) (backOf (W := 2) (rm_vo l Z a0 hw [] G1 k1 h2938 h0.size Z2967 (O2) (P5) (ch_k1.le) Old2966) hZ (wi hw 7 rfl) (wi hw 6 rfl) (by decide) (by decide)) (g := (mkF m 100 #[vI wa, vI wb, vI wc, vI wd, vI lb, vR a2737, .val st, vR a2891, U, U, U, U] [(.int k1), (.ref a2938), (.ref a2938)])) rfl (by rw [hml]; rfl) (argsL := [(.int k1)]) (rest := [(.ref a2938), (.ref a2938)]) (lenOf pd__C_Ljava_lang_String_ rfl) rfl (by show 2 * 0 + _ ≤ _; exact Nat.le_of_eq rfl) (hb hby at_100) (fun _ _ => ⟨rfl, e2938, (by decide : 12 + 2 ≤ _), (by decide : 42 + 5 ≤ _)⟩)
   dsimp only [Pt.U, Pt.locs, Pt.cells, Pt.slots] at X2971 l2971 y2971 z2971 st2971 hQ2971
   subst l2971 y2971 z2971
   obtain ⟨ra_2971, t_2971, kt_2971, rfl, NQ2971, K2971, pq2971_0, pq2971_1, fq2971_0, fq2971_1, fq2971_2, fq2971_3, fq2971_4, fq2971_5⟩ := hQ2971
   have N2972 := Fr.app N2922 NQ2971
   have ne2973 := nlt f2946.lt pq2971_0
   have ne2974 := nlt A2938.lt pq2971_0
   have ne2976 := nlt f2947.lt pq2971_0
   have ge2978 : h0.size ≤ ra_2971 := Nat.le_trans Z2967 pq2971_0
   have ne2980 := nlt A2938.lt pq2971_1
   have f2985 := f2946.keep K2971
   have f2986 := f2947.keep K2971
   have f2987 := f2948.keep K2971 nin0
   have f2988 := f2949.keep K2971 nin0
   have f2991 := f2952.keep K2971 nin0
   have f2992 := f2953.keep K2971 nin0
   have f2993 := f2954.keep K2971 nin0
   have f2995 := f2956.keep K2971 nin0
   have f2996 := f2957.keep K2971 nin0
   have f2997 := f2958.keep K2971
   have f2998 := f2959.keep K2971 nin0
   have f2999 := f2960.keep K2971 nin0
   have f3000 := f2961.keep K2971 nin0
   have f3001 := f2962.keep K2971 nin0
   have f3002 := f2963.keep K2971 nin0
   have f3003 := f2964.keep K2971 nin0
   have f3004 := f2965.keep K2971 nin0
   have f3005 := A2938.keep K2971
   have f3006 := f2969.keep K2971 nin0
   have f3007 := f2970.keep K2971 nin0
   have Old3008 := Old2966.keep K2971 all0
   have Kp3009 : Keep h0 T2971.heap [] := Kp2968.trans K2971 all0
   have Z3010 := Nat.le_trans Z2967 K2971.1
   have hk3011 := Nat.le_trans hk2945 K2971.1
   refine Rch.st (fun _ k => st2971 _ k) ?_
   show Rch p e below T2971 (mkF m 103 #[vI wa, vI wb, vI wc, vI wd, vI lb, vR a2737, .val st, vR a2891, U, U, U, U] [(.ref ra_2971), (.ref a2938), (.ref a2938)]) _
   refine w_iloadN (pc' := 104) X2971 hx hby at_103 rfl rfl ?_
   refine w_sipush (pc' := 107) (v := 255) X2971 hx hby at_104 rfl rfl ?_
   refine w_iand (pc' := 108) X2971 hx hby at_107 rfl ?_
   refine w_i2c (pc' := 109) X2971 hx hby at_108 rfl ?_
   have ch_f1 := own_ch8 wd
   obtain ⟨f1, hv_f1⟩ : ∃ z, z = (nar .char (wd &&& (255 : Int32))) := ⟨_, rfl⟩
   rw [← hv_f1]
   show Rch p e below T2971 (mkF m 109 #[vI wa, vI wb, vI wc, vI wd, vI lb, vR a2737, .val st, vR a2891, U, U, U, U] [(.int f1), (.ref ra_2971), (.ref a2938), (.ref a2938)]) _
   rw [← hv_f1] at ch_f1
   obtain ⟨_, _, ⟨T3012, L3012, k3012, n3012⟩, -, X3012, ⟨Lc3012, hQ3012, l3012, y3012, z3012⟩, st3012⟩ := Jvm.LawKit.callS X2971 hx (y := y_28) hown (mvT hZ (wi hw 4 rfl)) (mvT hZ (wi hw 5 rfl)) (mvT hZ (wi hw 6 rfl)) (mvT hZ (wi hw 7 rfl)) (by decide) (backOf (W := 3) (rm_vo l Z a0 hw [] G1 f1 T2971.heap h0.size Z3010 (O2) (P5) (ch_f1.le) Old3008) hZ (wi hw 7 rfl) (wi hw 6 rfl) (by decide) (by decide)) (g := (mkF m 109 #[vI wa, vI wb, vI wc, vI wd, vI lb, vR a2737, .val st, vR a2891, U, U, U, U] [(.int f1), (.ref ra_2971), (.ref a2938), (.ref a2938)])) rfl (by rw [hml]; rfl) (argsL := [(.int f1)]) (rest := [(.ref ra_2971), (.ref a2938), (.ref a2938)]) (lenOf pd__C_Ljava_lang_String_ rfl) rfl (by show 2 * 0 + _ ≤ _; exact Nat.le_of_eq rfl) (hb hby at_109) (fun _ _ => ⟨rfl, (rfl : T2971.heap = T2971.heap), (by decide : 14 + 2 ≤ _), (by decide : 47 + 5 ≤ _)⟩)
   dsimp only [Pt.U, Pt.locs, Pt.cells, Pt.slots] at X3012 l3012 y3012 z3012 st3012 hQ3012
   subst l3012 y3012 z3012
   obtain ⟨ra_3012, t_3012, kt_3012, rfl, NQ3012, K3012, pq3012_0, pq3012_1, fq3012_0, fq3012_1, fq3012_2, fq3012_3, fq3012_4, fq3012_5⟩ := hQ3012
   have N3013 := Fr.app N2972 NQ3012
   have ne3015 := nlt f3005.lt pq3012_0
   have ne3018 := nlt fq2971_0.lt pq3012_0
   have ne3023 := nlt f3005.lt pq3012_1
   have f3030 := f2985.keep K3012
   have f3031 := f2986.keep K3012
   have f3032 := f2987.keep K3012 nin0
   have f3033 := f2988.keep K3012 nin0
   have f3036 := f2991.keep K3012 nin0
   have f3037 := f2992.keep K3012 nin0
   have f3038 := f2993.keep K3012 nin0
   have f3040 := f2995.keep K3012 nin0
   have f3041 := f2996.keep K3012 nin0
   have f3042 := f2997.keep K3012
   have f3043 := f2998.keep K3012 nin0
   have f3044 := f2999.keep K3012 nin0
   have f3045 := f3000.keep K3012 nin0
   have f3046 := f3001.keep K3012 nin0
   have f3047 := f3002.keep K3012 nin0
   have f3048 := f3003.keep K3012 nin0
   have f3049 := f3004.keep K3012 nin0
   have f3050 := f3005.keep K3012
   have f3051 := f3006.keep K3012 nin0
   have f3052 := f3007.keep K3012 nin0
   have f3053 := fq2971_0.keep K3012
   have f3054 := fq2971_1.keep K3012 nin0
   have f3055 := fq2971_2.keep K3012 nin0
   have f3056 := fq2971_3.keep K3012 nin0
   have f3057 := fq2971_4.keep K3012 nin0
   have f3058 := fq2971_5.keep K3012 nin0
   have Old3059 := Old3008.keep K3012 all0
   have Kp3060 : Keep h0 T3012.heap [] := Kp3009.trans K3012 all0
   have Z3061 := Nat.le_trans Z3010 K3012.1
   have hk3062 := Nat.le_trans hk3011 K3012.1
   refine Rch.st (fun _ k => st3012 _ k) ?_
   show Rch p e below T3012 (mkF m 112 #[vI wa, vI wb, vI wc, vI wd, vI lb, vR a2737, .val st, vR a2891, U, U, U, U] [(.ref ra_3012), (.ref ra_2971), (.ref a2938), (.ref a2938)]) _
   obtain ⟨_, _, ⟨T3063, L3063, k3063, n3063⟩, -, X3063, ⟨Lc3063, hQ3063, l3063, y3063, z3063⟩, st3063⟩ := X3012.specialBack hx (y := y_39) rfl hown (mvT hZ (wi hw 84 rfl)) (mvT hZ (wi hw 85 rfl)) (mvT hZ (wi hw 86 rfl)) (by decide) (backOf (W := 1) (rm_fd l Z a0 hw [] a2938 ra_2971 ra_3012 T3012.heap h0.size Z3061 f3050 f3051 f3052 (ge2943)) hZ (wi hw 86 rfl) (wi hw 83 rfl) (by decide) (by decide)) (g := (mkF m 112 #[vI wa, vI wb, vI wc, vI wd, vI lb, vR a2737, .val st, vR a2891, U, U, U, U] [(.ref ra_3012), (.ref ra_2971), (.ref a2938), (.ref a2938)])) rfl (by rw [hml]; rfl) (Steps.refl _) (a := a2938) (argsL := [(.ref ra_2971), (.ref ra_3012)]) (rest := [(.ref a2938)]) (lenOf pd__Ljava_lang_String_Ljava_lang_String__V rfl) rfl (by show 2 * 0 + _ ≤ _; exact Nat.le_of_eq rfl) (hb hby at_112) (fun _ _ => ⟨rfl, (rfl : T3012.heap = T3012.heap), (by decide : 16 + 0 ≤ _), (by decide : 52 + 0 ≤ _)⟩)
   dsimp only [Pt.U, Pt.locs, Pt.cells, Pt.slots] at X3063 l3063 y3063 z3063 st3063 hQ3063
   subst l3063 y3063 z3063
   obtain ⟨rfl, NQ3063, K3063, fq3063_0, fq3063_1⟩ := hQ3063
   have N3064 := Fr.app N3013 NQ3063
   have f3065 := f3030.keep K3063
   have f3066 := f3031.keep K3063
   have f3067 := f3032.keep K3063 (ninS ne2941 nin0)
   have f3068 := f3033.keep K3063 (ninS ne2941 nin0)
   have f3071 := f3036.keep K3063 (ninS ne2942 nin0)
   have f3072 := f3037.keep K3063 (ninS ne2939 nin0)
   have f3073 := f3038.keep K3063 (ninS ne2939 nin0)
   have f3075 := f3040.keep K3063 (ninS ne2939 nin0)
   have f3076 := f3041.keep K3063 (ninS ne2939 nin0)
   have f3077 := f3042.keep K3063
   have f3078 := f3043.keep K3063 (ninS ne2940 nin0)
   have f3079 := f3044.keep K3063 (ninS ne2940 nin0)
   have f3080 := f3045.keep K3063 (ninS ne2940 nin0)
   have f3081 := f3046.keep K3063 (ninS ne2940 nin0)
   have f3082 := f3047.keep K3063 (ninS ne2940 nin0)
   have f3083 := f3048.keep K3063 (ninS ne2940 nin0)
   have f3084 := f3049.keep K3063 (ninS ne2940 nin0)
   have f3085 := f3050.keep K3063
   have f3086 := f3053.keep K3063
   have f3087 := f3054.keep K3063 (ninS (Ne.symm ne2974) nin0)
   have f3088 := f3055.keep K3063 (ninS (Ne.symm ne2974) nin0)
   have f3089 := f3056.keep K3063 (ninS (Ne.symm ne2974) nin0)
   have f3090 := f3057.keep K3063 (ninS (Ne.symm ne2974) nin0)
   have f3091 := f3058.keep K3063 (ninS (Ne.symm ne2980) nin0)
   have f3092 := fq3012_0.keep K3063
   have f3093 := fq3012_1.keep K3063 (ninS (Ne.symm ne3015) nin0)
   have f3094 := fq3012_2.keep K3063 (ninS (Ne.symm ne3015) nin0)
   have f3097 := fq3012_5.keep K3063 (ninS (Ne.symm ne3023) nin0)
   have Old3098 := Old3059.keep K3063 (allS ge2943 all0)
   have Kp3099 : Keep h0 T3063.heap [] := Kp3060.trans K3063 (allS (Or.inr (Nat.le_trans Kp2935.1 (Nat.le_of_eq g2938.symm))) all0)
   have Z3100 := Nat.le_trans Z3061 K3063.1
   have hk3101 := Nat.le_trans hk3062 K3063.1
   refine Rch.st (fun _ k => st3063.trans k) ?_
   show Rch p e below T3063 (mkF m 115 #[vI wa, vI wb, vI wc, vI wd, vI lb, vR a2737, .val st, vR a2891, U, U, U, U] [(.ref a2938)]) _
   refine w_astore (pc' := 117) (l' := #[vI wa, vI wb, vI wc, vI wd, vI lb, vR a2737, .val st, vR a2891, vR a2938, U, U, U]) X3063 hx hby at_115 rfl rfl rfl ?_
   obtain ⟨T3102, h3102, X3102, e3102, E3102, A3102, D3102, -, st3102⟩ := newO X3063 hx hZ hown (wi hw 81 rfl) (wi hw 82 rfl) (wi hw 83 rfl) (rfl : T3063.heap = T3063.heap) (g := (mkF m 117 #[vI wa, vI wb, vI wc, vI wd, vI lb, vR a2737, .val st, vR a2891, vR a2938, U, U, U] [])) rfl (hb hby at_117) (by decide) (by decide)
   obtain ⟨a3102, g3102⟩ : ∃ z, z = T3063.heap.size := ⟨_, rfl⟩
   rw [← g3102] at A3102 D3102 st3102
   have ne3103 : a2891 ≠ a3102 := by rw [g3102]; exact Nat.ne_of_lt f3065.lt
   have ne3104 : a2938 ≠ a3102 := by rw [g3102]; exact Nat.ne_of_lt f3085.lt
   have ne3105 : m2_2921 ≠ a3102 := by rw [g3102]; exact Nat.ne_of_lt f3077.lt
   have ne3106 : ra_2904 ≠ a3102 := by rw [g3102]; exact Nat.ne_of_lt f3066.lt
   have ne3107 : ra_2971 ≠ a3102 := by rw [g3102]; exact Nat.ne_of_lt f3086.lt
   have ne3108 : ra_3012 ≠ a3102 := by rw [g3102]; exact Nat.ne_of_lt f3092.lt
   have ne3109 : t_2904 ≠ a3102 := by rw [g3102]; exact Nat.ne_of_lt f3071.lt
   have ne3110 : t_2971 ≠ a3102 := by rw [g3102]; exact Nat.ne_of_lt f3091.lt
   have ne3111 : t_3012 ≠ a3102 := by rw [g3102]; exact Nat.ne_of_lt f3097.lt
   have ge3112 : h0.size ≤ a3102 := Nat.le_trans Z3100 (Nat.le_of_eq g3102.symm)
   have hk3114 := Nat.le_trans hk3101 E3102.1
   have f3115 := f3065.ext E3102
   have f3116 := f3066.ext E3102
   have f3117 := f3067.ext E3102
   have f3118 := f3068.ext E3102
   have f3121 := f3071.ext E3102
   have f3122 := f3072.ext E3102
   have f3123 := f3073.ext E3102
   have f3125 := f3075.ext E3102
   have f3126 := f3076.ext E3102
   have f3127 := f3077.ext E3102
   have f3128 := f3078.ext E3102
   have f3129 := f3079.ext E3102
   have f3130 := f3080.ext E3102
   have f3131 := f3081.ext E3102
   have f3132 := f3082.ext E3102
   have f3133 := f3083.ext E3102
   have f3134 := f3084.ext E3102
   have f3135 := f3085.ext E3102
   have f3136 := f3086.ext E3102
   have f3137 := f3087.ext E3102
   have f3138 := f3088.ext E3102
   have f3139 := f3089.ext E3102
   have f3140 := f3090.ext E3102
   have f3141 := f3091.ext E3102
   have f3142 := f3092.ext E3102
   have f3143 := f3093.ext E3102
   have f3144 := f3094.ext E3102
   have f3147 := f3097.ext E3102
   have f3148 := fq3063_0.ext E3102
   have f3149 := fq3063_1.ext E3102
   have Old3150 := Old3098.ext E3102
   have Z3151 := Nat.le_trans Z3100 E3102.1
   have Kp3152 : Keep h0 h3102 [] := Kp3099.ext E3102
   have f3153 : Fld Z h3102 a3102 "com/example/mandoline/mandoline/Place$Field" "key" "Ljava/lang/String;" .null := D3102 (Or.inr (wi hw 94 rfl)) (ty := (.object "java/lang/String")) (by decide)
   have f3154 : Fld Z h3102 a3102 "com/example/mandoline/mandoline/Place$Field" "name" "Ljava/lang/String;" .null := D3102 (Or.inr (wi hw 96 rfl)) (ty := (.object "java/lang/String")) (by decide)
   refine Rch.st (fun _ k => st3102 _ k) ?_
   show Rch p e below T3102 (mkF m 120 #[vI wa, vI wb, vI wc, vI wd, vI lb, vR a2737, .val st, vR a2891, vR a2938, U, U, U] [(.ref a3102)]) _
   refine w_dup (pc' := 121) X3102 hx hby at_120 rfl rfl ?_
   refine w_iloadN (pc' := 122) X3102 hx hby at_121 rfl rfl ?_
   refine w_bipush (pc' := 124) (v := 8) X3102 hx hby at_122 rfl rfl ?_
   refine w_iushr (pc' := 125) X3102 hx hby at_124 rfl ?_
   refine w_sipush (pc' := 128) (v := 255) X3102 hx hby at_125 rfl rfl ?_
   refine w_iand (pc' := 129) X3102 hx hby at_128 rfl ?_
   refine w_i2c (pc' := 130) X3102 hx hby at_129 rfl ?_
   have ch_k2 := own_ch8 (XT.ushr wc (8 : Int32))
   obtain ⟨k2, hv_k2⟩ : ∃ z, z = (nar .char ((XT.ushr wc (8 : Int32)) &&& (255 : Int32))) := ⟨_, rfl⟩
   rw [← hv_k2]
   show Rch p e below T3102 (mkF m 130 #[vI wa, vI wb, vI wc, vI wd, vI lb, vR a2737, .val st, vR a2891, vR a2938, U, U, U] [(.int k2), (.ref a3102), (.ref a3102)]) _
   rw [← hv_k2] at ch_k2
   obtain ⟨_, _, ⟨T3155, L3155, k3155, n3155⟩, -, X3155, ⟨Lc3155, hQ3155, l3155, y3155, z3155⟩, st3155⟩ := Jvm.LawKit.callS X3102 hx (y := y_28) hown (mvT hZ (wi hw 4 rfl)) (mvT hZ (wi hw 5 rfl)) (mvT hZ (wi hw 6 rfl)) (mvT hZ (wi hw 7 rfl)) (by decide) (backOf (W := 2) (rm_vo l Z a0 hw [] G1 k2 h3102 h0.size Z3151 (O2) (P5) (ch_k2.le) Old3150) hZ (wi hw 7 rfl) (wi hw 6 rfl) (by decide) (by decide)) (g := (mkF m 130 #[vI wa, vI wb, vI wc, vI wd, vI lb, vR a2737, .val st, vR a2891, vR a2938, U, U, U] [(.int k2), (.ref a3102), (.ref a3102)])) rfl (by rw [hml]; rfl) (argsL := [(.int k2)]) (rest := [(.ref a3102), (.ref a3102)]) (lenOf pd__C_Ljava_lang_String_ rfl) rfl (by show 2 * 0 + _ ≤ _; exact Nat.le_of_eq rfl) (hb hby at_130) (fun _ _ => ⟨rfl, e3102, (by decide : 17 + 2 ≤ _), (by decide : 54 + 5 ≤ _)⟩)
   dsimp only [Pt.U, Pt.locs, Pt.cells, Pt.slots] at X3155 l3155 y3155 z3155 st3155 hQ3155
   subst l3155 y3155 z3155
   obtain ⟨ra_3155, t_3155, kt_3155, rfl, NQ3155, K3155, pq3155_0, pq3155_1, fq3155_0, fq3155_1, fq3155_2, fq3155_3, fq3155_4, fq3155_5⟩ := hQ3155
   have N3156 := Fr.app N3064 NQ3155
   have ne3157 := nlt f3115.lt pq3155_0
   have ne3159 := nlt A3102.lt pq3155_0
   have ne3160 := nlt f3127.lt pq3155_0
   have ne3162 := nlt f3136.lt pq3155_0
   have ge3167 : h0.size ≤ ra_3155 := Nat.le_trans Z3151 pq3155_0
   have ne3170 := nlt A3102.lt pq3155_1
   have ne3171 := nlt f3127.lt pq3155_1
   have ne3173 := nlt f3136.lt pq3155_1
   have f3179 := f3115.keep K3155
   have f3180 := f3116.keep K3155
   have f3181 := f3117.keep K3155 nin0
   have f3182 := f3118.keep K3155 nin0
   have f3185 := f3121.keep K3155 nin0
   have f3186 := f3122.keep K3155 nin0
   have f3187 := f3123.keep K3155 nin0
   have f3189 := f3125.keep K3155 nin0
   have f3190 := f3126.keep K3155 nin0
   have f3191 := f3127.keep K3155
   have f3192 := f3128.keep K3155 nin0
   have f3193 := f3129.keep K3155 nin0
   have f3194 := f3130.keep K3155 nin0
   have f3195 := f3131.keep K3155 nin0
   have f3196 := f3132.keep K3155 nin0
   have f3197 := f3133.keep K3155 nin0
   have f3198 := f3134.keep K3155 nin0
   have f3199 := f3135.keep K3155
   have f3200 := f3136.keep K3155
   have f3201 := f3137.keep K3155 nin0
   have f3202 := f3138.keep K3155 nin0
   have f3203 := f3139.keep K3155 nin0
   have f3204 := f3140.keep K3155 nin0
   have f3205 := f3141.keep K3155 nin0
   have f3206 := f3142.keep K3155
   have f3207 := f3143.keep K3155 nin0
   have f3208 := f3144.keep K3155 nin0
   have f3211 := f3147.keep K3155 nin0
   have f3212 := f3148.keep K3155 nin0
   have f3213 := f3149.keep K3155 nin0
   have f3214 := A3102.keep K3155
   have f3215 := f3153.keep K3155 nin0
   have f3216 := f3154.keep K3155 nin0
   have Old3217 := Old3150.keep K3155 all0
   have Kp3218 : Keep h0 T3155.heap [] := Kp3152.trans K3155 all0
   have Z3219 := Nat.le_trans Z3151 K3155.1
   have hk3220 := Nat.le_trans hk3114 K3155.1
   refine Rch.st (fun _ k => st3155 _ k) ?_
   show Rch p e below T3155 (mkF m 133 #[vI wa, vI wb, vI wc, vI wd, vI lb, vR a2737, .val st, vR a2891, vR a2938, U, U, U] [(.ref ra_3155), (.ref a3102), (.ref a3102)]) _
   refine w_iloadN (pc' := 134) X3155 hx hby at_133 rfl rfl ?_
   refine w_bipush (pc' := 136) (v := 8) X3155 hx hby at_134 rfl rfl ?_
   refine w_iushr (pc' := 137) X3155 hx hby at_136 rfl ?_
   refine w_sipush (pc' := 140) (v := 255) X3155 hx hby at_137 rfl rfl ?_
   refine w_iand (pc' := 141) X3155 hx hby at_140 rfl ?_
   refine w_i2c (pc' := 142) X3155 hx hby at_141 rfl ?_
   have ch_f2 := own_ch8 (XT.ushr wd (8 : Int32))
   obtain ⟨f2, hv_f2⟩ : ∃ z, z = (nar .char ((XT.ushr wd (8 : Int32)) &&& (255 : Int32))) := ⟨_, rfl⟩
   rw [← hv_f2]
   show Rch p e below T3155 (mkF m 142 #[vI wa, vI wb, vI wc, vI wd, vI lb, vR a2737, .val st, vR a2891, vR a2938, U, U, U] [(.int f2), (.ref ra_3155), (.ref a3102), (.ref a3102)]) _
   rw [← hv_f2] at ch_f2
   obtain ⟨_, _, ⟨T3221, L3221, k3221, n3221⟩, -, X3221, ⟨Lc3221, hQ3221, l3221, y3221, z3221⟩, st3221⟩ := Jvm.LawKit.callS X3155 hx (y := y_28) hown (mvT hZ (wi hw 4 rfl)) (mvT hZ (wi hw 5 rfl)) (mvT hZ (wi hw 6 rfl)) (mvT hZ (wi hw 7 rfl)) (by decide) (backOf (W := 3) (rm_vo l Z a0 hw [] G1 f2 T3155.heap h0.size Z3219 (O2) (P5) (ch_f2.le) Old3217) hZ (wi hw 7 rfl) (wi hw 6 rfl) (by decide) (by decide)) (g := (mkF m 142 #[vI wa, vI wb, vI wc, vI wd, vI lb, vR a2737, .val st, vR a2891, vR a2938, U, U, U] [(.int f2), (.ref ra_3155), (.ref a3102), (.ref a3102)])) rfl (by rw [hml]; rfl) (argsL := [(.int f2)]) (rest := [(.ref ra_3155), (.ref a3102), (.ref a3102)]) (lenOf pd__C_Ljava_lang_String_ rfl) rfl (by show 2 * 0 + _ ≤ _; exact Nat.le_of_eq rfl) (hb hby at_142) (fun _ _ => ⟨rfl, (rfl : T3155.heap = T3155.heap), (by decide : 19 + 2 ≤ _), (by decide : 59 + 5 ≤ _)⟩)
   dsimp only [Pt.U, Pt.locs, Pt.cells, Pt.slots] at X3221 l3221 y3221 z3221 st3221 hQ3221
   subst l3221 y3221 z3221
   obtain ⟨ra_3221, t_3221, kt_3221, rfl, NQ3221, K3221, pq3221_0, pq3221_1, fq3221_0, fq3221_1, fq3221_2, fq3221_3, fq3221_4, fq3221_5⟩ := hQ3221
   have N3222 := Fr.app N3156 NQ3221
   have ne3225 := nlt f3214.lt pq3221_0
   have ne3226 := nlt f3191.lt pq3221_0
   have ne3228 := nlt f3200.lt pq3221_0
   have ne3230 := nlt fq3155_0.lt pq3221_0
   have ne3238 := nlt f3214.lt pq3221_1
   have ne3239 := nlt f3191.lt pq3221_1
   have ne3241 := nlt f3200.lt pq3221_1
   have f3249 := f3179.keep K3221
   have f3250 := f3180.keep K3221
   have f3251 := f3181.keep K3221 nin0
   have f3252 := f3182.keep K3221 nin0
   have f3255 := f3185.keep K3221 nin0
   have f3256 := f3186.keep K3221 nin0
   have f3257 := f3187.keep K3221 nin0
   have f3259 := f3189.keep K3221 nin0
   have f3260 := f3190.keep K3221 nin0
   have f3261 := f3191.keep K3221
   have f3262 := f3192.keep K3221 nin0
   have f3263 := f3193.keep K3221 nin0
   have f3264 := f3194.keep K3221 nin0
   have f3265 := f3195.keep K3221 nin0
   have f3266 := f3196.keep K3221 nin0
   have f3267 := f3197.keep K3221 nin0
   have f3268 := f3198.keep K3221 nin0
   have f3269 := f3199.keep K3221
   have f3270 := f3200.keep K3221
   have f3271 := f3201.keep K3221 nin0
   have f3272 := f3202.keep K3221 nin0
   have f3273 := f3203.keep K3221 nin0
   have f3274 := f3204.keep K3221 nin0
   have f3275 := f3205.keep K3221 nin0
   have f3276 := f3206.keep K3221
   have f3277 := f3207.keep K3221 nin0
   have f3278 := f3208.keep K3221 nin0
   have f3281 := f3211.keep K3221 nin0
   have f3282 := f3212.keep K3221 nin0
   have f3283 := f3213.keep K3221 nin0
   have f3284 := f3214.keep K3221
   have f3285 := f3215.keep K3221 nin0
   have f3286 := f3216.keep K3221 nin0
   have f3287 := fq3155_0.keep K3221
   have f3288 := fq3155_1.keep K3221 nin0
   have f3289 := fq3155_2.keep K3221 nin0
   have f3290 := fq3155_3.keep K3221 nin0
   have f3291 := fq3155_4.keep K3221 nin0
   have f3292 := fq3155_5.keep K3221 nin0
   have Old3293 := Old3217.keep K3221 all0
   have Kp3294 : Keep h0 T3221.heap [] := Kp3218.trans K3221 all0
   have Z3295 := Nat.le_trans Z3219 K3221.1
   have hk3296 := Nat.le_trans hk3220 K3221.1
   refine Rch.st (fun _ k => st3221 _ k) ?_
   show Rch p e below T3221 (mkF m 145 #[vI wa, vI wb, vI wc, vI wd, vI lb, vR a2737, .val st, vR a2891, vR a2938, U, U, U] [(.ref ra_3221), (.ref ra_3155), (.ref a3102), (.ref a3102)]) _
   obtain ⟨_, _, ⟨T3297, L3297, k3297, n3297⟩, -, X3297, ⟨Lc3297, hQ3297, l3297, y3297, z3297⟩, st3297⟩ := X3221.specialBack hx (y := y_39) rfl hown (mvT hZ (wi hw 84 rfl)) (mvT hZ (wi hw 85 rfl)) (mvT hZ (wi hw 86 rfl)) (by decide) (backOf (W := 1) (rm_fd l Z a0 hw [] a3102 ra_3155 ra_3221 T3221.heap h0.size Z3295 f3284 f3285 f3286 (ge3112)) hZ (wi hw 86 rfl) (wi hw 83 rfl) (by decide) (by decide)) (g := (mkF m 145 #[vI wa, vI wb, vI wc, vI wd, vI lb, vR a2737, .val st, vR a2891, vR a2938, U, U, U] [(.ref ra_3221), (.ref ra_3155), (.ref a3102), (.ref a3102)])) rfl (by rw [hml]; rfl) (Steps.refl _) (a := a3102) (argsL := [(.ref ra_3155), (.ref ra_3221)]) (rest := [(.ref a3102)]) (lenOf pd__Ljava_lang_String_Ljava_lang_String__V rfl) rfl (by show 2 * 0 + _ ≤ _; exact Nat.le_of_eq rfl) (hb hby at_145) (fun _ _ => ⟨rfl, (rfl : T3221.heap = T3221.heap), (by decide : 21 + 0 ≤ _), (by decide : 64 + 0 ≤ _)⟩)
   dsimp only [Pt.U, Pt.locs, Pt.cells, Pt.slots] at X3297 l3297 y3297 z3297 st3297 hQ3297
   subst l3297 y3297 z3297
   obtain ⟨rfl, NQ3297, K3297, fq3297_0, fq3297_1⟩ := hQ3297
   have N3298 := Fr.app N3222 NQ3297
   have f3299 := f3249.keep K3297
   have f3300 := f3250.keep K3297
   have f3301 := f3251.keep K3297 (ninS ne3106 nin0)
   have f3302 := f3252.keep K3297 (ninS ne3106 nin0)
   have f3305 := f3255.keep K3297 (ninS ne3109 nin0)
   have f3306 := f3256.keep K3297 (ninS ne3103 nin0)
   have f3307 := f3257.keep K3297 (ninS ne3103 nin0)
   have f3309 := f3259.keep K3297 (ninS ne3103 nin0)
   have f3310 := f3260.keep K3297 (ninS ne3103 nin0)
   have f3311 := f3261.keep K3297
   have f3312 := f3262.keep K3297 (ninS ne3105 nin0)
   have f3313 := f3263.keep K3297 (ninS ne3105 nin0)
   have f3314 := f3264.keep K3297 (ninS ne3105 nin0)
   have f3315 := f3265.keep K3297 (ninS ne3105 nin0)
   have f3316 := f3266.keep K3297 (ninS ne3105 nin0)
   have f3317 := f3267.keep K3297 (ninS ne3105 nin0)
   have f3318 := f3268.keep K3297 (ninS ne3105 nin0)
   have f3319 := f3269.keep K3297
   have f3320 := f3270.keep K3297
   have f3321 := f3271.keep K3297 (ninS ne3107 nin0)
   have f3322 := f3272.keep K3297 (ninS ne3107 nin0)
   have f3323 := f3273.keep K3297 (ninS ne3107 nin0)
   have f3324 := f3274.keep K3297 (ninS ne3107 nin0)
   have f3325 := f3275.keep K3297 (ninS ne3110 nin0)
   have f3326 := f3276.keep K3297
   have f3327 := f3277.keep K3297 (ninS ne3108 nin0)
   have f3328 := f3278.keep K3297 (ninS ne3108 nin0)
   have f3331 := f3281.keep K3297 (ninS ne3111 nin0)
   have f3332 := f3282.keep K3297 (ninS ne3104 nin0)
   have f3333 := f3283.keep K3297 (ninS ne3104 nin0)
   have f3334 := f3284.keep K3297
   have f3335 := f3287.keep K3297
   have f3336 := f3288.keep K3297 (ninS (Ne.symm ne3159) nin0)
   have f3337 := f3289.keep K3297 (ninS (Ne.symm ne3159) nin0)
   have f3338 := f3290.keep K3297 (ninS (Ne.symm ne3159) nin0)
   have f3339 := f3291.keep K3297 (ninS (Ne.symm ne3159) nin0)
   have f3340 := f3292.keep K3297 (ninS (Ne.symm ne3170) nin0)
   have f3341 := fq3221_0.keep K3297
   have f3342 := fq3221_1.keep K3297 (ninS (Ne.symm ne3225) nin0)
   have f3343 := fq3221_2.keep K3297 (ninS (Ne.symm ne3225) nin0)
   have f3346 := fq3221_5.keep K3297 (ninS (Ne.symm ne3238) nin0)
   have Old3347 := Old3293.keep K3297 (allS ge3112 all0)
   have Kp3348 : Keep h0 T3297.heap [] := Kp3294.trans K3297 (allS (Or.inr (Nat.le_trans Kp3099.1 (Nat.le_of_eq g3102.symm))) all0)
   have Z3349 := Nat.le_trans Z3295 K3297.1
   have hk3350 := Nat.le_trans hk3296 K3297.1
   refine Rch.st (fun _ k => st3297.trans k) ?_
   show Rch p e below T3297 (mkF m 148 #[vI wa, vI wb, vI wc, vI wd, vI lb, vR a2737, .val st, vR a2891, vR a2938, U, U, U] [(.ref a3102)]) _
   refine w_astore (pc' := 150) (l' := #[vI wa, vI wb, vI wc, vI wd, vI lb, vR a2737, .val st, vR a2891, vR a2938, vR a3102, U, U]) X3297 hx hby at_148 rfl rfl rfl ?_
   refine w_aload (pc' := 152) X3297 hx hby at_150 rfl rfl rfl ?_
   refine w_aload (pc' := 154) X3297 hx hby at_152 rfl rfl rfl ?_
   obtain ⟨cq3351, kq3351, q3351a, q3351b, q3351c⟩ := isOf hZ (rfl : T3297.heap = T3297.heap) f3299
   obtain ⟨_, _, ⟨T3351, L3351, k3351, n3351⟩, -, X3351, hSx3351, hgx3351, ⟨Lc3351, hQ3351, l3351, y3351, z3351⟩, st3351⟩ := X3297.virtualBackS hx (y := y_57) (z := y_57) hown (mvT hZ (wi hw 97 rfl)) (mvT hZ (wi hw 98 rfl)) (notFace_of_selects (args := #[]) (mvT hZ (wi hw 100 rfl))) (mvT hZ (wi hw 100 rfl)) (mvT hZ (wi hw 99 rfl)) (by decide) (backOfV (PV := fun vm => IB Z vm ([] : List String)) (W := 0) (rm_af_n1 l Z a0 hw [] G1 G6 a2891 ra_2904 a2938 ra_3012 t_3012 kt_3012 ([(.int (own_by f1))]) (.int 0) t_2904 kt_2904 ([(.int (own_by c0))]) (.int 0) ra_2971 t_2971 kt_2971 (own_by k1) 0 0 m2_2921 T3297.heap h0.size Z3349 (O2) (P5) (O6) f3299 f3307 f3319 f3333 f3326 f3327 f3328 f3331 f3300 f3301 f3302 f3305 (H131) (hcw) f3306 f3332 f3320 f3321 f3322 f3323 f3324 f3325 f3311 f3312 f3313 f3314 f3315 f3316 f3317 f3318 (ge2926) (ge2978) ((Ne.symm ne3018)) (ne2976) Old3347) hZ (fun vm hW => own_ib (s := s.setVm s.vm) hI hW) (wi hw 101 rfl) (wi hw 3 rfl) (by decide) (by decide)) q3351a q3351c (g := (mkF m 154 #[vI wa, vI wb, vI wc, vI wd, vI lb, vR a2737, .val st, vR a2891, vR a2938, vR a3102, U, U] [(.ref a2938), (.ref a2891)])) rfl (by rw [hml]; rfl) (Steps.refl _) (argsL := [(.ref a2938)]) (rest := []) (lenOf pd__Lcom_example_mandoline_mandoline_Place_Field__Lcom_example_mandoline_mandoline_Variable_ rfl) rfl (by show 2 * 0 + _ ≤ _; exact Nat.le_of_eq rfl) (hb hby at_154) (fun _ _ => ⟨rfl, (rfl : T3297.heap = T3297.heap), (by decide : 21 + 11 ≤ _), (by decide : 64 + 90 ≤ _)⟩)
   dsimp only [Pt.U, Pt.locs, Pt.cells, Pt.slots] at X3351 l3351 y3351 z3351 st3351 hQ3351 hSx3351 hgx3351
   subst l3351 y3351 z3351
   have hS3351 := foldS hS0 (by rw [(rfl : T3297.heap = T3297.heap)]; exact hk3350) hSx3351 hgx3351
   have hk3351 : T3351.heap.size ≤ T3351.heap.size := Nat.le_refl _
   have hZ3351 : Z.Warmed39 (s.setVm T3351.vm).vm := State.Warmed39.trans (t := s.setVm s.vm) hZ hSx3351.1
   have hown3351 : (s.setVm T3351.vm).vm.findClass "com/example/mandoline/mandoline/VariableDeclaringStatementPinLaw" = some m.cls := by rw [show (s.setVm T3351.vm).vm = T3351.vm from rfl, hSx3351.1.alike.findClass]; exact hown
   have X3351w : Stand p l e room_1 (s.setVm T3351.vm) m _ below meth c T3351 _ _ _ := X3351
   obtain ⟨nv_3351, m2_3351, ns_3351, ts_3351, kts_3351, tv_3351, sa_3351, sbb_3351, ksb_3351, x2_3351, y2_3351, rfl, NQ3351, K3351, pq3351_0, pq3351_1, pq3351_2, pq3351_3, fq3351_0, fq3351_1, fq3351_2, fq3351_3, fq3351_4, fq3351_5, fq3351_6, fq3351_7, fq3351_8, fq3351_9, fq3351_10, fq3351_11, fq3351_12, fq3351_13, fq3351_14, fq3351_15, fq3351_16, fq3351_17, fq3351_18, fq3351_19, fq3351_20, fq3351_21, fq3351_22, fq3351_23, IQ3351, LQ3351_0⟩ := hQ3351
   have N3352 := Fr.app N3298 NQ3351
   have ne3360 := nlt f3335.lt pq3351_0
   have ne3368 := nlt f3299.lt pq3351_1
   have ge3382 : h0.size ≤ m2_3351 := Nat.le_trans Z3349 pq3351_1
   have ne3390 := nlt f3335.lt pq3351_2
   have f3413 := f3299.keep K3351
   have f3423 := f3309.keep K3351 (ninS ne2923 (ninS ne2973 nin0))
   have f3424 := f3310.keep K3351 (ninS ne2923 (ninS ne2973 nin0))
   have f3438 := f3334.keep K3351
   have f3439 := f3335.keep K3351
   have f3440 := f3336.keep K3351 (ninS (Ne.symm ne3160) (ninS (Ne.symm ne3162) nin0))
   have f3441 := f3337.keep K3351 (ninS (Ne.symm ne3160) (ninS (Ne.symm ne3162) nin0))
   have f3442 := f3338.keep K3351 (ninS (Ne.symm ne3160) (ninS (Ne.symm ne3162) nin0))
   have f3443 := f3339.keep K3351 (ninS (Ne.symm ne3160) (ninS (Ne.symm ne3162) nin0))
   have f3444 := f3340.keep K3351 (ninS (Ne.symm ne3171) (ninS (Ne.symm ne3173) nin0))
   have f3445 := f3341.keep K3351
   have f3446 := f3342.keep K3351 (ninS (Ne.symm ne3226) (ninS (Ne.symm ne3228) nin0))
   have f3447 := f3343.keep K3351 (ninS (Ne.symm ne3226) (ninS (Ne.symm ne3228) nin0))
   have f3450 := f3346.keep K3351 (ninS (Ne.symm ne3239) (ninS (Ne.symm ne3241) nin0))
   have f3451 := fq3297_0.keep K3351 (ninS (Ne.symm ne3105) (ninS (Ne.symm ne3107) nin0))
   have f3452 := fq3297_1.keep K3351 (ninS (Ne.symm ne3105) (ninS (Ne.symm ne3107) nin0))
   have Old3453 := Old3347.keep K3351 (allS ge2926 (allS ge2978 all0))
   have Kp3454 : Keep h0 T3351.heap [] := Kp3348.trans K3351 (allS (Or.inr (Nat.le_trans Kp2918.1 pq2921_0)) (allS (Or.inr (Nat.le_trans Kp2968.1 pq2971_0)) all0))
   have Z3455 := Nat.le_trans Z3349 K3351.1
   refine Rch.st (fun _ k => st3351.trans k) ?_
   show Rch p e below T3351 (mkF m 157 #[vI wa, vI wb, vI wc, vI wd, vI lb, vR a2737, .val st, vR a2891, vR a2938, vR a3102, U, U] [(.ref nv_3351)]) _
   refine w_astore (pc' := 159) (l' := #[vI wa, vI wb, vI wc, vI wd, vI lb, vR a2737, .val st, vR a2891, vR a2938, vR a3102, vR nv_3351, U]) X3351w hx hby at_157 rfl rfl rfl ?_
   refine w_aload (pc' := 161) X3351w hx hby at_159 rfl rfl rfl ?_
   refine w_aload (pc' := 163) X3351w hx hby at_161 rfl rfl rfl ?_
   obtain ⟨cq3456, kq3456, q3456a, q3456b, q3456c⟩ := isOf hZ3351 (rfl : T3351.heap = T3351.heap) fq3351_0
   obtain ⟨_, _, ⟨T3456, L3456, k3456, n3456⟩, -, X3456, hSx3456, hgx3456, ⟨Lc3456, hQ3456, l3456, y3456, z3456⟩, st3456⟩ := X3351w.virtualBackS hx (y := y_57) (z := y_57) hown3351 (mvT hZ3351 (wi hw 97 rfl)) (mvT hZ3351 (wi hw 98 rfl)) (notFace_of_selects (args := #[]) (mvT hZ3351 (wi hw 100 rfl))) (mvT hZ3351 (wi hw 100 rfl)) (mvT hZ3351 (wi hw 99 rfl)) (by decide) (backOfV (PV := fun vm => IB Z vm (["."] : List String) ∧ Lit (Z.setVm vm) "com/example/mandoline/mandoline/Variable" 131 sa_3351) (W := 0) (rm_af_n2 l Z a0 hw [] G1 G6 nv_3351 ns_3351 a3102 ra_3221 t_3221 kt_3221 ([(.int (own_by f2))]) (.int 0) ts_3351 kts_3351 tv_3351 (.int 0) sa_3351 sbb_3351 ksb_3351 ra_3155 t_3155 kt_3155 (own_by k2) 0 0 m2_3351 T3351.heap h0.size Z3455 (O2) (P5) (O6) fq3351_0 fq3351_2 f3438 f3452 f3445 f3446 f3447 f3450 fq3351_12 fq3351_13 fq3351_14 fq3351_15 fq3351_16 fq3351_17 fq3351_18 fq3351_19 fq3351_1 f3451 f3439 f3440 f3441 f3442 f3443 f3444 fq3351_4 fq3351_5 fq3351_6 fq3351_7 fq3351_8 fq3351_9 fq3351_10 fq3351_11 (ge3382) (ge3167) ((Ne.symm ne3230)) ((Ne.symm ne3390)) Old3453) hZ3351 (fun vm hW => ⟨own_ib (s := s.setVm T3351.vm) IQ3351 hW, own_lit (s := s) (vm := T3351.vm) LQ3351_0 hW.wide⟩) (wi hw 101 rfl) (wi hw 3 rfl) (by decide) (by decide)) q3456a q3456c (g := (mkF m 163 #[vI wa, vI wb, vI wc, vI wd, vI lb, vR a2737, .val st, vR a2891, vR a2938, vR a3102, vR nv_3351, U] [(.ref a3102), (.ref nv_3351)])) rfl (by rw [hml]; rfl) (Steps.refl _) (argsL := [(.ref a3102)]) (rest := []) (lenOf pd__Lcom_example_mandoline_mandoline_Place_Field__Lcom_example_mandoline_mandoline_Variable_ rfl) rfl (by show 2 * 0 + _ ≤ _; exact Nat.le_of_eq rfl) (hb hby at_163) (fun _ _ => ⟨rfl, (rfl : T3351.heap = T3351.heap), (by decide : 32 + 9 ≤ _), (by decide : 154 + 82 ≤ _)⟩)
   dsimp only [Pt.U, Pt.locs, Pt.cells, Pt.slots] at X3456 l3456 y3456 z3456 st3456 hQ3456 hSx3456 hgx3456
   subst l3456 y3456 z3456
   have hS3456 := foldS hS3351 (by rw [(rfl : T3351.heap = T3351.heap)]; exact hk3351) hSx3456 hgx3456
   have hk3456 : T3456.heap.size ≤ T3456.heap.size := Nat.le_refl _
   have hZ3456 : Z.Warmed39 (s.setVm T3456.vm).vm := State.Warmed39.trans (t := s.setVm T3351.vm) hZ3351 hSx3456.1
   have hown3456 : (s.setVm T3456.vm).vm.findClass "com/example/mandoline/mandoline/VariableDeclaringStatementPinLaw" = some m.cls := by rw [show (s.setVm T3456.vm).vm = T3456.vm from rfl, hSx3456.1.alike.findClass]; exact hown3351
   have X3456w : Stand p l e room_1 (s.setVm T3456.vm) m _ below meth c T3456 _ _ _ := X3456
   obtain ⟨nv_3456, m2_3456, ns_3456, ts_3456, kts_3456, tv_3456, x2_3456, y2_3456, rfl, NQ3456, K3456, pq3456_0, pq3456_1, pq3456_2, pq3456_3, fq3456_0, fq3456_1, fq3456_2, fq3456_3, fq3456_4, fq3456_5, fq3456_6, fq3456_7, fq3456_8, fq3456_9, fq3456_10, fq3456_11, fq3456_12, fq3456_13, fq3456_14, fq3456_15, fq3456_16, fq3456_17, fq3456_18, fq3456_19, IQ3456⟩ := hQ3456
   have N3457 := Fr.app N3352 NQ3456
   have f3510 := f3413.keep K3456
   have f3514 := f3423.keep K3456 (ninS ne3368 (ninS ne3157 nin0))
   have f3515 := f3424.keep K3456 (ninS ne3368 (ninS ne3157 nin0))
   have f3528 := fq3351_0.keep K3456
   have ne3529 : nv_3351 ≠ m2_3351 := ne_exa fq3351_0 fq3351_4 (by decide)
   have f3532 := fq3351_3.keep K3456 (ninS ne3529 (ninS (Ne.symm ne3360) nin0))
   have Kp3545 : Keep h0 T3456.heap [] := Kp3454.trans K3456 (allS (Or.inr (Nat.le_trans Kp3348.1 pq3351_1)) (allS (Or.inr (Nat.le_trans Kp3152.1 pq3155_0)) all0))
   have Z3546 := Nat.le_trans Z3455 K3456.1
   refine Rch.st (fun _ k => st3456.trans k) ?_
   show Rch p e below T3456 (mkF m 166 #[vI wa, vI wb, vI wc, vI wd, vI lb, vR a2737, .val st, vR a2891, vR a2938, vR a3102, vR nv_3351, U] [(.ref nv_3456)]) _
   refine w_astore (pc' := 168) (l' := #[vI wa, vI wb, vI wc, vI wd, vI lb, vR a2737, .val st, vR a2891, vR a2938, vR a3102, vR nv_3351, vR nv_3456]) X3456w hx hby at_166 rfl rfl rfl ?_
   refine w_aload (pc' := 170) X3456w hx hby at_168 rfl rfl rfl ?_
   obtain ⟨cq3547, kq3547, q3547a, q3547b, q3547c⟩ := isOf hZ3456 (rfl : T3456.heap = T3456.heap) f3510
   obtain ⟨_, _, ⟨T3547, L3547, k3547, n3547⟩, -, X3547, ⟨Lc3547, hQ3547, l3547, y3547, z3547⟩, st3547⟩ := X3456w.virtualBack hx (y := y_60) (z := y_60) hown3456 (mvT hZ3456 (wi hw 334 rfl)) (mvT hZ3456 (wi hw 335 rfl)) (notFace_of_selects (args := #[]) (mvT hZ3456 (wi hw 337 rfl))) (mvT hZ3456 (wi hw 337 rfl)) (mvT hZ3456 (wi hw 336 rfl)) (by decide) (backOf (W := 0) (rm_ds0 l Z a0 hw [] a2891 st T3456.heap h0.size Z3546 f3510 f3514 f3515 (hst)) hZ3456 (wi hw 338 rfl) (wi hw 3 rfl) (by decide) (by decide)) q3547a q3547c (g := (mkF m 170 #[vI wa, vI wb, vI wc, vI wd, vI lb, vR a2737, .val st, vR a2891, vR a2938, vR a3102, vR nv_3351, vR nv_3456] [(.ref a2891)])) rfl (by rw [hml]; rfl) (Steps.refl _) (argsL := []) (rest := []) (lenOf pd___Lcom_example_mandoline_mandoline_ClangNode_ rfl) rfl (by show 2 * 0 + _ ≤ _; exact Nat.le_of_eq rfl) (hb hby at_170) (fun _ _ => ⟨rfl, (rfl : T3456.heap = T3456.heap), (by decide : 41 + 0 ≤ _), (by decide : 236 + 0 ≤ _)⟩)
   dsimp only [Pt.U, Pt.locs, Pt.cells, Pt.slots] at X3547 l3547 y3547 z3547 st3547 hQ3547
   subst l3547 y3547 z3547
   obtain ⟨rfl, NQ3547, K3547⟩ := hQ3547
   have N3548 := Fr.app N3457 NQ3547
   refine Rch.st (fun _ k => st3547.trans k) ?_
   show Rch p e below T3547 (mkF m 173 #[vI wa, vI wb, vI wc, vI wd, vI lb, vR a2737, .val st, vR a2891, vR a2938, vR a3102, vR nv_3351, vR nv_3456] [st]) _
   refine w_aload (pc' := 175) X3547 hx hby at_173 rfl hst rfl ?_
   refine w_acmpNo (pc' := 178) X3547 hx hby at_175 hst hst (XT.aa_ne_f (rfl)) rfl ?_
   refine w_aload (pc' := 180) X3547 hx hby at_178 rfl rfl rfl ?_
   obtain ⟨cq3549, kq3549, q3549a, q3549b, q3549c⟩ := isOf hZ3456 K3547 f3528
   obtain ⟨_, _, ⟨T3549, L3549, k3549, n3549⟩, -, X3549, ⟨Lc3549, hQ3549, l3549, y3549, z3549⟩, st3549⟩ := X3547.virtualBack hx (y := y_60) (z := y_60) hown3456 (mvT hZ3456 (wi hw 334 rfl)) (mvT hZ3456 (wi hw 335 rfl)) (notFace_of_selects (args := #[]) (mvT hZ3456 (wi hw 337 rfl))) (mvT hZ3456 (wi hw 337 rfl)) (mvT hZ3456 (wi hw 336 rfl)) (by decide) (backOf (W := 0) (rm_ds1 l Z a0 hw [] nv_3351 a2891 st T3456.heap h0.size Z3546 f3528 f3532 f3510 f3514 f3515 (hst)) hZ3456 (wi hw 338 rfl) (wi hw 3 rfl) (by decide) (by decide)) q3549a q3549c (g := (mkF m 180 #[vI wa, vI wb, vI wc, vI wd, vI lb, vR a2737, .val st, vR a2891, vR a2938, vR a3102, vR nv_3351, vR nv_3456] [(.ref nv_3351)])) rfl (by rw [hml]; rfl) (Steps.refl _) (argsL := []) (rest := []) (lenOf pd___Lcom_example_mandoline_mandoline_ClangNode_ rfl) rfl (by show 2 * 0 + _ ≤ _; exact Nat.le_of_eq rfl) (hb hby at_180) (fun _ _ => ⟨rfl, K3547, (by decide : 41 + 0 ≤ _), (by decide : 236 + 0 ≤ _)⟩)
   dsimp only [Pt.U, Pt.locs, Pt.cells, Pt.slots] at X3549 l3549 y3549 z3549 st3549 hQ3549
   subst l3549 y3549 z3549
   obtain ⟨rfl, NQ3549, K3549⟩ := hQ3549
   have N3550 := Fr.app N3548 NQ3549
   refine Rch.st (fun _ k => st3549.trans k) ?_
   show Rch p e below T3549 (mkF m 183 #[vI wa, vI wb, vI wc, vI wd, vI lb, vR a2737, .val st, vR a2891, vR a2938, vR a3102, vR nv_3351, vR nv_3456] [st]) _
   refine w_aload (pc' := 185) X3549 hx hby at_183 rfl hst rfl ?_
   refine w_acmpNo (pc' := 188) X3549 hx hby at_185 hst hst (XT.aa_ne_f (rfl)) rfl ?_
   refine w_aload (pc' := 190) X3549 hx hby at_188 rfl rfl rfl ?_
   obtain ⟨cq3551, kq3551, q3551a, q3551b, q3551c⟩ := isOf hZ3456 K3549 fq3456_0
   obtain ⟨_, _, ⟨T3551, L3551, k3551, n3551⟩, -, X3551, ⟨Lc3551, hQ3551, l3551, y3551, z3551⟩, st3551⟩ := X3549.virtualBack hx (y := y_60) (z := y_60) hown3456 (mvT hZ3456 (wi hw 334 rfl)) (mvT hZ3456 (wi hw 335 rfl)) (notFace_of_selects (args := #[]) (mvT hZ3456 (wi hw 337 rfl))) (mvT hZ3456 (wi hw 337 rfl)) (mvT hZ3456 (wi hw 336 rfl)) (by decide) (backOf (W := 0) (rm_ds2 l Z a0 hw [] nv_3456 nv_3351 a2891 st T3456.heap h0.size Z3546 fq3456_0 fq3456_3 f3528 f3532 f3510 f3514 f3515 (hst)) hZ3456 (wi hw 338 rfl) (wi hw 3 rfl) (by decide) (by decide)) q3551a q3551c (g := (mkF m 190 #[vI wa, vI wb, vI wc, vI wd, vI lb, vR a2737, .val st, vR a2891, vR a2938, vR a3102, vR nv_3351, vR nv_3456] [(.ref nv_3456)])) rfl (by rw [hml]; rfl) (Steps.refl _) (argsL := []) (rest := []) (lenOf pd___Lcom_example_mandoline_mandoline_ClangNode_ rfl) rfl (by show 2 * 0 + _ ≤ _; exact Nat.le_of_eq rfl) (hb hby at_190) (fun _ _ => ⟨rfl, K3549, (by decide : 41 + 0 ≤ _), (by decide : 236 + 0 ≤ _)⟩)
   dsimp only [Pt.U, Pt.locs, Pt.cells, Pt.slots] at X3551 l3551 y3551 z3551 st3551 hQ3551
   subst l3551 y3551 z3551
   obtain ⟨rfl, NQ3551, K3551⟩ := hQ3551
   have N3552 := Fr.app N3550 NQ3551
   refine Rch.st (fun _ k => st3551.trans k) ?_
   show Rch p e below T3551 (mkF m 193 #[vI wa, vI wb, vI wc, vI wd, vI lb, vR a2737, .val st, vR a2891, vR a2938, vR a3102, vR nv_3351, vR nv_3456] [st]) _
   refine w_aload (pc' := 195) X3551 hx hby at_193 rfl hst rfl ?_
   refine w_acmpNo (pc' := 198) X3551 hx hby at_195 hst hst (XT.aa_ne_f (rfl)) rfl ?_
   refine w_iconst (pc' := 199) (v := 1) X3551 hx hby at_198 rfl rfl ?_
   refine w_goto (pc' := 203) X3551 hx hby at_199 (by decide) ?_
   exact Rch.retVW X3551 hx hS3456 (by rw [K3551]; exact hk3456) Bd.returns rfl (Or.inl ⟨rfl, by simp, _, rfl⟩) (hb hby at_203) (by rw [K3551]; exact ⟨rfl, (own_Fr Z0 N3552), Kp3545, own_ib_mono (own_ib (s := s.setVm T3456.vm) IQ3456 X3551.warmed) (by decide)⟩) (by decide) (by decide)
  by_cases hlb : lb = 0
  ·skip
   refine w_ifYes (pc' := 67) X2745 hx hby at_31 (XT.i0_eq_t (hlb)) (by decide) ?_
   refine w_aconstNull (pc' := 68) X2745 hx hby at_67 rfl ?_
   exact J _ _ _ .null (X2745.mono (by decide) (by decide)) e2745 N2746 Old2747 Z2748 Kp2750 hk2749 (rfl)
  ·skip
   refine w_ifNo (pc' := 34) X2745 hx hby at_31 (XT.i0_eq_f (hlb)) rfl ?_
   obtain ⟨T3553, h3553, X3553, e3553, E3553, A3553, D3553, -, st3553⟩ := newO X2745 hx hZ hown (wi hw 340 rfl) (wi hw 341 rfl) (wi hw 342 rfl) e2745 (g := (mkF m 34 #[vI wa, vI wb, vI wc, vI wd, vI lb, vR a2737, U, U, U, U, U, U] [])) rfl (hb hby at_34) (by decide) (by decide)
   obtain ⟨a3553, g3553⟩ : ∃ z, z = h2745.size := ⟨_, rfl⟩
   rw [← g3553] at A3553 D3553 st3553
   have ge3555 : h0.size ≤ a3553 := Nat.le_trans Z2748 (Nat.le_of_eq g3553.symm)
   have hk3557 := Nat.le_trans hk2749 E3553.1
   have f3558 := f2752.ext E3553
   have Old3559 := Old2747.ext E3553
   have Z3560 := Nat.le_trans Z2748 E3553.1
   have Kp3561 : Keep h0 h3553 [] := Kp2750.ext E3553
   have f3562 : Fld Z h3553 a3553 "com/example/mandoline/mandoline/ClangNode" "kind" "Ljava/lang/String;" .null := D3553 (Or.inr (wi hw 390 rfl)) (ty := (.object "java/lang/String")) (by decide)
   have f3563 : Fld Z h3553 a3553 "com/example/mandoline/mandoline/ClangNode" "attributes" "[Ljava/lang/String;" .null := D3553 (Or.inr (wi hw 392 rfl)) (ty := (.array (.object "java/lang/String"))) (by decide)
   have f3564 : Fld Z h3553 a3553 "com/example/mandoline/mandoline/ClangNode" "location" "Lcom/example/mandoline/mandoline/ClangLocation;" .null := D3553 (Or.inr (wi hw 394 rfl)) (ty := (.object "com/example/mandoline/mandoline/ClangLocation")) (by decide)
   have f3565 : Fld Z h3553 a3553 "com/example/mandoline/mandoline/ClangNode" "begin" "Lcom/example/mandoline/mandoline/ClangLocation;" .null := D3553 (Or.inr (wi hw 396 rfl)) (ty := (.object "com/example/mandoline/mandoline/ClangLocation")) (by decide)
   have f3566 : Fld Z h3553 a3553 "com/example/mandoline/mandoline/ClangNode" "end" "Lcom/example/mandoline/mandoline/ClangLocation;" .null := D3553 (Or.inr (wi hw 398 rfl)) (ty := (.object "com/example/mandoline/mandoline/ClangLocation")) (by decide)
   have f3567 : Fld Z h3553 a3553 "com/example/mandoline/mandoline/ClangNode" "children" "Ljava/util/List;" .null := D3553 (Or.inr (wi hw 443 rfl)) (ty := (.object "java/util/List")) (by decide)
   refine Rch.st (fun _ k => st3553 _ k) ?_
   show Rch p e below T3553 (mkF m 37 #[vI wa, vI wb, vI wc, vI wd, vI lb, vR a2737, U, U, U, U, U, U] [(.ref a3553)]) _
   refine w_dup (pc' := 38) X3553 hx hby at_37 rfl rfl ?_
   obtain ⟨T3568, h3568, X3568, e3568, E3568, A3568, D3568, -, st3568⟩ := newO X3553 hx hZ hown (wi hw 343 rfl) (wi hw 14 rfl) (wi hw 6 rfl) e3553 (g := (mkF m 38 #[vI wa, vI wb, vI wc, vI wd, vI lb, vR a2737, U, U, U, U, U, U] [(.ref a3553), (.ref a3553)])) rfl (hb hby at_38) (by decide) (by decide)
   obtain ⟨a3568, g3568⟩ : ∃ z, z = h3553.size := ⟨_, rfl⟩
   rw [← g3568] at A3568 D3568 st3568
   have ne3569 : a2737 ≠ a3568 := by rw [g3568]; exact Nat.ne_of_lt f3558.lt
   have ne3570 : a3553 ≠ a3568 := by rw [g3568]; exact Nat.ne_of_lt A3553.lt
   have ge3571 : h0.size ≤ a3568 := Nat.le_trans Z3560 (Nat.le_of_eq g3568.symm)
   have hk3573 := Nat.le_trans hk3557 E3568.1
   have f3574 := f3558.ext E3568
   have f3575 := A3553.ext E3568
   have f3576 := f3562.ext E3568
   have f3577 := f3563.ext E3568
   have f3578 := f3564.ext E3568
   have f3579 := f3565.ext E3568
   have f3580 := f3566.ext E3568
   have f3581 := f3567.ext E3568
   have Old3582 := Old3559.ext E3568
   have Z3583 := Nat.le_trans Z3560 E3568.1
   have Kp3584 : Keep h0 h3568 [] := Kp3561.ext E3568
   have f3585 : Fld Z h3568 a3568 "java/lang/String" "coder" "B" (.int (0 : Int32)) := D3568 (Or.inr (wi hw 29 rfl)) (ty := .byte) (by decide)
   have f3586 : Fld Z h3568 a3568 "java/lang/String" "value" "[B" .null := D3568 (Or.inr (wi hw 27 rfl)) (ty := (.array .byte)) (by decide)
   refine Rch.st (fun _ k => st3568 _ k) ?_
   show Rch p e below T3568 (mkF m 41 #[vI wa, vI wb, vI wc, vI wd, vI lb, vR a2737, U, U, U, U, U, U] [(.ref a3568), (.ref a3553), (.ref a3553)]) _
   refine w_dup (pc' := 42) X3568 hx hby at_41 rfl rfl ?_
   refine w_aload (pc' := 44) X3568 hx hby at_42 rfl rfl rfl ?_
   obtain ⟨_, _, ⟨T3587, L3587, k3587, n3587⟩, -, X3587, ⟨Lc3587, hQ3587, l3587, y3587, z3587⟩, st3587⟩ := X3568.specialBack hx (y := y_32) rfl hown (mvT hZ (wi hw 344 rfl)) (mvT hZ (wi hw 345 rfl)) (mvT hZ (wi hw 346 rfl)) (by decide) (backOf (W := 3) (rm_init1_1 l Z a0 hw [] G1 a3568 a2737 kc2737 qa h3568 h0.size Z3583 (O2) (P5) A3568 f3585 f3586 f3574 (ge3571) ((Ne.symm ne3569)) (ch_qa.le) Old3582) hZ (wi hw 346 rfl) (wi hw 6 rfl) (by decide) (by decide)) (g := (mkF m 44 #[vI wa, vI wb, vI wc, vI wd, vI lb, vR a2737, U, U, U, U, U, U] [(.ref a2737), (.ref a3568), (.ref a3568), (.ref a3553), (.ref a3553)])) rfl (by rw [hml]; rfl) (Steps.refl _) (a := a3568) (argsL := [(.ref a2737)]) (rest := [(.ref a3568), (.ref a3553), (.ref a3553)]) (lenOf pd___C_V rfl) rfl (by show 2 * 0 + _ ≤ _; exact Nat.le_of_eq rfl) (hb hby at_44) (fun _ _ => ⟨rfl, e3568, (by decide : 3 + 1 ≤ _), (by decide : 11 + 1 ≤ _)⟩)
   dsimp only [Pt.U, Pt.locs, Pt.cells, Pt.slots] at X3587 l3587 y3587 z3587 st3587 hQ3587
   subst l3587 y3587 z3587
   obtain ⟨t_3587, kt_3587, rfl, NQ3587, K3587, pq3587_0, fq3587_0, fq3587_1, fq3587_2⟩ := hQ3587
   have N3588 := Fr.app N2746 NQ3587
   have f3594 := f3575.keep K3587
   have f3595 := f3576.keep K3587 (ninS ne3570 nin0)
   have f3596 := f3577.keep K3587 (ninS ne3570 nin0)
   have f3597 := f3578.keep K3587 (ninS ne3570 nin0)
   have f3598 := f3579.keep K3587 (ninS ne3570 nin0)
   have f3599 := f3580.keep K3587 (ninS ne3570 nin0)
   have f3600 := f3581.keep K3587 (ninS ne3570 nin0)
   have Old3602 := Old3582.keep K3587 (allS ge3571 all0)
   have Kp3603 : Keep h0 T3587.heap [] := Kp3584.trans K3587 (allS (Or.inr (Nat.le_trans Kp3561.1 (Nat.le_of_eq g3568.symm))) all0)
   have Z3604 := Nat.le_trans Z3583 K3587.1
   have hk3605 := Nat.le_trans hk3573 K3587.1
   refine Rch.st (fun _ k => st3587.trans k) ?_
   show Rch p e below T3587 (mkF m 47 #[vI wa, vI wb, vI wc, vI wd, vI lb, vR a2737, U, U, U, U, U, U] [(.ref a3568), (.ref a3553), (.ref a3553)]) _
   refine w_iconst (pc' := 48) (v := 0) X3587 hx hby at_47 rfl rfl ?_
   obtain ⟨T3606, h3606, kc3606, X3606, e3606, E3606, A3606, O3606, st3606⟩ := newR X3587 hx hZ hown (wi hw 343 rfl) (wi hw 360 rfl) (rfl : T3587.heap = T3587.heap) (g := (mkF m 48 #[vI wa, vI wb, vI wc, vI wd, vI lb, vR a2737, U, U, U, U, U, U] [(.int 0), (.ref a3568), (.ref a3553), (.ref a3553)])) rfl (hb hby at_48) rfl (by decide : ¬ ((0 : Int32) < (0 : Int32))) (cap := 0) (by decide : (0 : Int32).toNatClampNeg ≤ 0) (by decide) (by decide) (by decide)
   obtain ⟨a3606, g3606⟩ : ∃ z, z = T3587.heap.size := ⟨_, rfl⟩
   rw [← g3606] at A3606 st3606
   have hk3613 := Nat.le_trans hk3605 E3606.1
   have f3615 := f3594.ext E3606
   have f3616 := f3595.ext E3606
   have f3617 := f3596.ext E3606
   have f3618 := f3597.ext E3606
   have f3619 := f3598.ext E3606
   have f3620 := f3599.ext E3606
   have f3621 := f3600.ext E3606
   have Old3626 := Old3602.ext E3606
   have Z3627 := Nat.le_trans Z3604 E3606.1
   have Kp3628 : Keep h0 h3606 [] := Kp3603.ext E3606
   refine Rch.st (fun _ k => st3606 _ k) ?_
   show Rch p e below T3606 (mkF m 51 #[vI wa, vI wb, vI wc, vI wd, vI lb, vR a2737, U, U, U, U, U, U] [(.ref a3606), (.ref a3568), (.ref a3553), (.ref a3553)]) _
   refine w_aconstNull (pc' := 52) X3606 hx hby at_51 rfl ?_
   refine w_aconstNull (pc' := 53) X3606 hx hby at_52 rfl ?_
   refine w_aconstNull (pc' := 54) X3606 hx hby at_53 rfl ?_
   obtain ⟨T3630, h3630, X3630, e3630, E3630, A3630, D3630, -, st3630⟩ := newO X3606 hx hZ hown (wi hw 361 rfl) (wi hw 362 rfl) (wi hw 363 rfl) e3606 (g := (mkF m 54 #[vI wa, vI wb, vI wc, vI wd, vI lb, vR a2737, U, U, U, U, U, U] [.null, .null, .null, (.ref a3606), (.ref a3568), (.ref a3553), (.ref a3553)])) rfl (hb hby at_54) (by decide) (by decide)
   obtain ⟨a3630, g3630⟩ : ∃ z, z = h3606.size := ⟨_, rfl⟩
   rw [← g3630] at A3630 D3630 st3630
   have ne3632 : a3553 ≠ a3630 := by rw [g3630]; exact Nat.ne_of_lt f3615.lt
   have ge3636 : h0.size ≤ a3630 := Nat.le_trans Z3627 (Nat.le_of_eq g3630.symm)
   have hk3638 := Nat.le_trans hk3613 E3630.1
   have f3640 := f3615.ext E3630
   have f3641 := f3616.ext E3630
   have f3642 := f3617.ext E3630
   have f3643 := f3618.ext E3630
   have f3644 := f3619.ext E3630
   have f3645 := f3620.ext E3630
   have f3646 := f3621.ext E3630
   have Old3652 := Old3626.ext E3630
   have Z3653 := Nat.le_trans Z3627 E3630.1
   have Kp3654 : Keep h0 h3630 [] := Kp3628.ext E3630
   have f3655 : Fld Z h3630 a3630 "java/util/ArrayList" "elementData" "[Ljava/lang/Object;" .null := D3630 (Or.inl (wi hw 384 rfl)) (ty := (.array (.object "java/lang/Object"))) (by decide)
   have f3656 : Fld Z h3630 a3630 "java/util/AbstractList" "modCount" "I" (.int (0 : Int32)) := D3630 (Or.inl (wi hw 381 rfl)) (ty := .int) (by decide)
   refine Rch.st (fun _ k => st3630 _ k) ?_
   show Rch p e below T3630 (mkF m 57 #[vI wa, vI wb, vI wc, vI wd, vI lb, vR a2737, U, U, U, U, U, U] [(.ref a3630), .null, .null, .null, (.ref a3606), (.ref a3568), (.ref a3553), (.ref a3553)]) _
   refine w_dup (pc' := 58) X3630 hx hby at_57 rfl rfl ?_
   obtain ⟨_, _, ⟨T3657, L3657, k3657, n3657⟩, -, X3657, ⟨Lc3657, hQ3657, l3657, y3657, z3657⟩, st3657⟩ := X3630.specialBack hx (y := y_63) rfl hown (mvT hZ (wi hw 364 rfl)) (mvT hZ (wi hw 365 rfl)) (mvT hZ (wi hw 366 rfl)) (by decide) (backOf (W := 8) (rm_AL l Z a0 hw [] G7 a3630 h3630 h0.size Z3653 (O7) A3630 f3655 f3656 (ge3636) Old3652) hZ (wi hw 366 rfl) (wi hw 363 rfl) (by decide) (by decide)) (g := (mkF m 58 #[vI wa, vI wb, vI wc, vI wd, vI lb, vR a2737, U, U, U, U, U, U] [(.ref a3630), (.ref a3630), .null, .null, .null, (.ref a3606), (.ref a3568), (.ref a3553), (.ref a3553)])) rfl (by rw [hml]; rfl) (Steps.refl _) (a := a3630) (argsL := []) (rest := [(.ref a3630), .null, .null, .null, (.ref a3606), (.ref a3568), (.ref a3553), (.ref a3553)]) (lenOf pd___V rfl) rfl (by show 2 * 0 + _ ≤ _; exact Nat.le_of_eq rfl) (hb hby at_58) (fun _ _ => ⟨rfl, e3630, (by decide : 6 + 0 ≤ _), (by decide : 15 + 0 ≤ _)⟩)
   dsimp only [Pt.U, Pt.locs, Pt.cells, Pt.slots] at X3657 l3657 y3657 z3657 st3657 hQ3657
   subst l3657 y3657 z3657
   obtain ⟨rfl, NQ3657, K3657⟩ := hQ3657
   have N3658 := Fr.app N3588 NQ3657
   have f3660 := f3640.keep K3657
   have f3661 := f3641.keep K3657 (ninS ne3632 nin0)
   have f3662 := f3642.keep K3657 (ninS ne3632 nin0)
   have f3663 := f3643.keep K3657 (ninS ne3632 nin0)
   have f3664 := f3644.keep K3657 (ninS ne3632 nin0)
   have f3665 := f3645.keep K3657 (ninS ne3632 nin0)
   have f3666 := f3646.keep K3657 (ninS ne3632 nin0)
   have f3672 := A3630.keep K3657
   have Old3673 := Old3652.keep K3657 (allS ge3636 all0)
   have Kp3674 : Keep h0 T3657.heap [] := Kp3654.trans K3657 (allS (Or.inr (Nat.le_trans Kp3628.1 (Nat.le_of_eq g3630.symm))) all0)
   have Z3675 := Nat.le_trans Z3653 K3657.1
   have hk3676 := Nat.le_trans hk3638 K3657.1
   refine Rch.st (fun _ k => st3657.trans k) ?_
   show Rch p e below T3657 (mkF m 61 #[vI wa, vI wb, vI wc, vI wd, vI lb, vR a2737, U, U, U, U, U, U] [(.ref a3630), .null, .null, .null, (.ref a3606), (.ref a3568), (.ref a3553), (.ref a3553)]) _
   obtain ⟨_, _, ⟨T3677, L3677, k3677, n3677⟩, -, X3677, ⟨Lc3677, hQ3677, l3677, y3677, z3677⟩, st3677⟩ := X3657.specialBack hx (y := y_69) rfl hown (mvT hZ (wi hw 385 rfl)) (mvT hZ (wi hw 386 rfl)) (mvT hZ (wi hw 387 rfl)) (by decide) (backOf (W := 1) (rm_cn l Z a0 hw [] mi1 mi2 mi3 a3553 a3568 a3606 a3630 T3657.heap h0.size Z3675 (M1) (M2) (M3) f3660 f3661 f3662 f3663 f3664 f3665 f3666 f3672 (ge3555)) hZ (wi hw 387 rfl) (wi hw 342 rfl) (by decide) (by decide)) (g := (mkF m 61 #[vI wa, vI wb, vI wc, vI wd, vI lb, vR a2737, U, U, U, U, U, U] [(.ref a3630), .null, .null, .null, (.ref a3606), (.ref a3568), (.ref a3553), (.ref a3553)])) rfl (by rw [hml]; rfl) (Steps.refl _) (a := a3553) (argsL := [(.ref a3568), (.ref a3606), .null, .null, .null, (.ref a3630)]) (rest := [(.ref a3553)]) (lenOf pd__Ljava_lang_String__Ljava_lang_String_Lcom_example_mandoline_mandoline_ClangLocation_Lcom_example_mandoline_mandoline_ClangLocation_Lcom_example_mandoline_mandoline_ClangLocation_Ljava_util_List__V rfl) rfl (by show 2 * 0 + _ ≤ _; exact Nat.le_of_eq rfl) (hb hby at_61) (fun _ _ => ⟨rfl, (rfl : T3657.heap = T3657.heap), (by decide : 6 + 1 ≤ _), (by decide : 15 + 2 ≤ _)⟩)
   dsimp only [Pt.U, Pt.locs, Pt.cells, Pt.slots] at X3677 l3677 y3677 z3677 st3677 hQ3677
   subst l3677 y3677 z3677
   obtain ⟨rfl, NQ3677, K3677⟩ := hQ3677
   have N3678 := Fr.app N3658 NQ3677
   have Old3687 := Old3673.keep K3677 (allS ge3555 all0)
   have Kp3688 : Keep h0 T3677.heap [] := Kp3674.trans K3677 (allS (Or.inr (Nat.le_trans Kp2750.1 (Nat.le_of_eq g3553.symm))) all0)
   have Z3689 := Nat.le_trans Z3675 K3677.1
   have hk3690 := Nat.le_trans hk3676 K3677.1
   refine Rch.st (fun _ k => st3677.trans k) ?_
   show Rch p e below T3677 (mkF m 64 #[vI wa, vI wb, vI wc, vI wd, vI lb, vR a2737, U, U, U, U, U, U] [(.ref a3553)]) _
   refine w_goto (pc' := 68) X3677 hx hby at_64 (by decide) ?_
   exact J _ _ _ (.ref a3553) X3677 (rfl : T3677.heap = T3677.heap) N3678 Old3687 Z3689 Kp3688 hk3690 (rfl)
 by_cases c3691 : (wa &&& (1 : Int32)) = 0
 ·skip
  refine w_ifYes (pc' := 10) X0 hx hby at_3 (XT.i0_eq_t (c3691)) (by decide) ?_
  refine w_iconst (pc' := 11) (v := 0) X0 hx hby at_10 rfl rfl ?_
  exact Jlb _
 ·skip
  refine w_ifNo (pc' := 6) X0 hx hby at_3 (XT.i0_eq_f (c3691)) rfl ?_
  refine w_iconst (pc' := 7) (v := 1) X0 hx hby at_6 rfl rfl ?_
  refine w_goto (pc' := 11) X0 hx hby at_7 (by decide) ?_
  exact Jlb _

set_option maxRecDepth 65536 in
set_option maxHeartbeats 40000000 in
theorem comes_1 {Post : Tables → Env → Array Value → State → Outcome → State → Prop} (hpost : ∀ tb e args s v u, (limb_1_1.after args s (.returned v) u = true ∧ limb_1_2.after args s (.returned v) u = true ∧ True) → ReturnedEndW s (.returned v) u (Jvm.fieldLocs frame_1_writes args s ++ Jvm.arrayLocs frame_1_arrays args s ++ Jvm.staticLocs frame_1_statics s) 88 1536 → Post tb e args s (.returned v) u) :
    ArmFor flags0 classFile x code maxLocals ret World_1 tables_1 room_1 Calls_1 rest_1 Pre_1 Post := by
  intro l hfl _ _ p e ha hc hk s m args below hf hA hF happ hP
  obtain ⟨hcalls, hrest, hpre⟩ := hP
  obtain ⟨-, -, -, hnamed, -, -, -, hat⟩ := (Spec.applies_iff hf).mp happ
  obtain ⟨hg, hn⟩ := and_e (Cond.before_iff.mp (show (Jvm.Cond.and given_1 narrow_1).before args s = true from hpre))
  obtain ⟨hcnt, hgs⟩ := and_e hg
  obtain ⟨w0, w1, w2, w3, rfl⟩ : ∃ w0 w1 w2 w3, args = #[w0, w1, w2, w3] := by
    have hs : args.size = 4 := by simpa [Cond.value, given_1] using hcnt
    obtain ⟨L⟩ := args
    match L, hs with
    | [w0, w1, w2, w3], _ => exact ⟨w0, w1, w2, w3, rfl⟩
  have hw := fun d (hd : d ∈ tables_1) => atoms_spec (ws := Jvm.Cond.code x code maxLocals ret :: tables_1) hat d (List.mem_cons_of_mem _ hd)
  obtain ⟨hsets, hown0⟩ := atoms_of _ (rest_1_c_eq ▸ (show rest_1_c.before _ s = true from hrest))
  have hfit : Fit s := fun {y c} hc i hi => by
    obtain ⟨ha, rfl⟩ := Array.getElem?_eq_some_iff.mp hc
    have q := List.all_eq_true.mp ((Array.all_eq_true_iff_forall_mem.mp hF) _ (Array.getElem_mem ha)) i (List.mem_range.mpr hi)
    simpa [Array.getElem?_eq_getElem hi] using q
  obtain ⟨g0, gr0⟩ := and_e hgs
  obtain ⟨i0, q0⟩ := is_v g0
  obtain rfl : w0 = (.int i0) := Option.some.inj q0
  obtain ⟨g1, gr1⟩ := and_e gr0
  obtain ⟨i1, q1⟩ := is_v g1
  obtain rfl : w1 = (.int i1) := Option.some.inj q1
  obtain ⟨g2, gr2⟩ := and_e gr1
  obtain ⟨i2, q2⟩ := is_v g2
  obtain rfl : w2 = (.int i2) := Option.some.inj q2
  obtain ⟨i3, q3⟩ := is_v gr2
  obtain rfl : w3 = (.int i3) := Option.some.inj q3
  obtain ⟨G1, eG⟩ := is_v (Cond.before_iff.mp (hsets _ (List.mem_of_getElem? (i := 1) rfl)))
  have O2 := Sta.start eG (Or.inl (hsets _ (List.mem_of_getElem? (i := 0) rfl)))
  have P5 : ¬ (G1 = (0 : Int32)) := gotF (Cond.eq_ints eG (Term.int_eval (0))) (not_v (Cond.before_iff.mp (hsets _ (List.mem_of_getElem? (i := 2) rfl))))
  obtain ⟨G6, eG6⟩ := exa_v (Cond.before_iff.mp (hsets _ (List.mem_of_getElem? (i := 11) rfl)))
  have O6 := Sta.start eG6 (Or.inl (hsets _ (List.mem_of_getElem? (i := 10) rfl)))
  obtain ⟨G7, eG7⟩ := exa_v (Cond.before_iff.mp (hsets _ (List.mem_of_getElem? (i := 23) rfl)))
  have O7 := Sta.start eG7 (Or.inr ⟨hw _ (List.mem_of_getElem? (i := 363) rfl), (hsets _ (List.mem_of_getElem? (i := 18) rfl))⟩)
  obtain ⟨cm1, km1, mi1, mm1⟩ := hcalls.1
  obtain ⟨cm2, km2, mi2, mm2⟩ := hcalls.2.1
  obtain ⟨cm3, km3, mi3, mm3⟩ := hcalls.2.2.1
  have M1 : own_Mir s "java/util/ArrayList" mi1 := ⟨cm1, km1, mm1.1, mm1.2.1, mm1.2.2.1⟩
  have M2 : own_Mir s "java/util/Collections$UnmodifiableList" mi2 := ⟨cm2, km2, mm2.1, mm2.2.1, mm2.2.2.1⟩
  have M3 : own_Mir s "java/util/Collections$UnmodifiableRandomAccessList" mi3 := ⟨cm3, km3, mm3.1, mm3.2.1, mm3.2.2.1⟩
  have H131 := hcalls.2.2.2.1 ("com/example/mandoline/mandoline/Variable", 131) (List.mem_of_getElem? (i := 0) rfl)
  obtain ⟨n, o, h1, h2, h3, _, L, rfl, ⟨rfl, N, -⟩, hq⟩ := rm_law l s _ hw tables_1 G1 G6 G7 mi1 mi2 mi3 i0 i1 i2 i3 s.heap s.heap.size (Nat.le_refl _) O2 P5 O6 O7 M1 M2 M3 H131 (hsets _ (List.mem_of_getElem? (i := 2) rfl)) (OldL.start s) p e ha hc hk s m _ below hf ((Spec.applies_iff_loose hf).mp happ).1 ⟨rfl, State.Warmed39.refl s, rfl, IB.start⟩ trivial
  refine ⟨n, _, h1, h2, h3, hpost _ _ _ _ _ _ ⟨Cond.after_iff.mpr rfl, Cond.after_iff.mpr (eq_i res_at (Term.int_eval (1)) rfl), trivial⟩ ⟨hq.1, hq.2.1, hq.2.2.1, (hq.2.2.2.sift fun y hy => Or.inr (N y hy)).mono (by decide) (by decide)⟩⟩
theorem main_1_1 : Claimed_1_1 := comes_1 fun _ _ _ _ _ _ h hF => ⟨h.1, hF⟩
theorem main_1_2 : Claimed_1_2 := comes_1 fun _ _ _ _ _ _ h hF => ⟨h.2.1, hF⟩
end Jvm.Pilot.@@N@@
namespace Jvm.Pilot.@@N@@
open Jvm Jvm.ClassFile Sem Op Lib Jvm.Free Jvm.Stand Jvm.Pilot.@@N@@.Jvm.D
/-! MADE BY PROGRAM (witnessworld.py) out of the Statement's table words and the real class files: 59 classes; the members and pool entries that the words name. The judged class is class 1, her method 1. -/
namespace start1
open Jvm.ClassFile
def u (s : String) : CpInfo := .utf8 (stringToUtf16 s)
/-- a pool by its gaps: so many unusable entries, then the entry; so many at the end -/
def gap : Nat → List CpInfo → List CpInfo
  | 0, r => r
  | n + 1, r => .unusable :: gap n r
def poolList (es : List (Nat × CpInfo)) (last : Nat) : List CpInfo := es.foldr (fun e r => gap e.1 (e.2 :: r)) (gap last [])
def pool (es : List (Nat × CpInfo)) (last : Nat) : Array CpInfo := ⟨poolList es last⟩
def fileOf (pool : Array CpInfo) (this : Nat) (attrs : Array Attribute := #[]) (ms : Array MethodInfo := #[]) (fl : Nat := 33) (sup : Nat := 0) (ifs : Array Nat := #[]) (fds : Array FieldInfo := #[]) : ClassFile where
  minorVersion := 0
  majorVersion := 65
  constantPool := pool
  accessFlags := fl
  thisClass := this
  superClass := sup
  interfaces := ifs
  fields := fds
  methods := ms
  attributes := attrs
def plain (name : String) (sup : Option ClassId) : Class where
  name := name
  kind := .ordinary
  loader := none
  accessFlags := 33
  super := sup
  interfaces := #[]
  cf := none
  fields := #[]
  methods := #[]
  instanceTypes := #[]
  staticTypes := #[]
  resolved := #[]
  callSites := []
  init := .initialized
  statics := none
  mirror := none

def pool0 : Array CpInfo := pool [(5, u "<init>"), (0, u "()V"), (1, .class_ 10), (1, u "java/lang/Object"), (0, u "getClass"), (0, u "()Ljava/lang/Class;"), (14, u "hashCode"), (0, u "()I")] 95

def k0c0 : Code := { maxStack := 0, maxLocals := 1, code := object_method_1_code, exceptionTable := #[], attributes := #[] }
def k0m0 : Method := { name := "<init>", desc := "()V", sig := { parameters := [], returnType := none }, accessFlags := 1, code := some k0c0 }
def k0m1 : Method := { name := "getClass", desc := "()Ljava/lang/Class;", sig := { parameters := [], returnType := some (.object "java/lang/Class") }, accessFlags := 273, code := none }
def k0m2 : Method := { name := "hashCode", desc := "()I", sig := { parameters := [], returnType := some .int }, accessFlags := 257, code := none }
/-- java/lang/Object -/
def k0 : Class := { plain "java/lang/Object" none with
  accessFlags := 33
  interfaces := #[]
  cf := some (fileOf pool0 8 #[] #[{ accessFlags := 1, nameIndex := 5, descriptorIndex := 6, attributes := #[] }, { accessFlags := 273, nameIndex := 11, descriptorIndex := 12, attributes := #[] }, { accessFlags := 257, nameIndex := 27, descriptorIndex := 28, attributes := #[] }] 33 0 #[] #[])
  fields := #[]
  methods := #[k0m0, k0m1, k0m2]
  instanceTypes := #[]
  staticTypes := #[]
  resolved := Array.replicate 124 none
  statics := none }

def pool1 : Array CpInfo := pool [(2, .class_ 4), (0, .nameAndType 5 6), (0, u "java/lang/Object"), (0, u "<init>"), (0, u "()V"), (0, .class_ 8), (0, u "com/example/mandoline/mandoline/ClangNode"), (0, .class_ 10), (0, u "java/lang/String"), (0, .methodref 9 12), (0, .nameAndType 5 13), (0, u "([C)V"), (0, .class_ 15), (0, u "java/util/ArrayList"), (0, .methodref 14 3), (0, .methodref 7 18), (0, .nameAndType 5 19), (0, u "(Ljava/lang/String;[Ljava/lang/String;Lcom/example/mandoline/mandoline/ClangLocation;Lcom/example/mandoline/mandoline/ClangLocation;Lcom/example/mandoline/mandoline/ClangLocation;Ljava/util/List;)V"), (0, .class_ 21), (0, u "com/example/mandoline/mandoline/Variable"), (0, .methodref 9 23), (0, .nameAndType 24 25), (0, u "valueOf"), (0, u "(C)Ljava/lang/String;"), (0, .methodref 20 27), (0, .nameAndType 5 28), (0, u "(Ljava/lang/String;Lcom/example/mandoline/mandoline/ClangNode;)V"), (0, .class_ 30), (0, u "com/example/mandoline/mandoline/Place$Field"), (0, .methodref 29 32), (0, .nameAndType 5 33), (0, u "(Ljava/lang/String;Ljava/lang/String;)V"), (0, .methodref 20 35), (0, .nameAndType 36 37), (0, u "addField"), (0, u "(Lcom/example/mandoline/mandoline/Place$Field;)Lcom/example/mandoline/mandoline/Variable;"), (0, .methodref 20 39), (0, .nameAndType 40 41), (0, u "declaringStatement"), (0, u "()Lcom/example/mandoline/mandoline/ClangNode;"), (0, .class_ 43), (0, u "com/example/mandoline/mandoline/VariableDeclaringStatementPinLaw"), (2, u "law"), (0, u "(IIII)Z")] 9

def k1m0 : Method := { name := "<init>", desc := "()V", sig := { parameters := [], returnType := none }, accessFlags := 1, code := none }
def k1c1 : Code := { maxStack := 9, maxLocals := 12, code := code, exceptionTable := #[], attributes := #[] }
def k1m1 : Method := { name := "law", desc := "(IIII)Z", sig := { parameters := [.int, .int, .int, .int], returnType := some .boolean }, accessFlags := 9, code := some k1c1 }
/-- com/example/mandoline/mandoline/VariableDeclaringStatementPinLaw -/
def k1 : Class := { plain "com/example/mandoline/mandoline/VariableDeclaringStatementPinLaw" (some 0) with
  accessFlags := 49
  interfaces := #[]
  cf := some (fileOf pool1 42 #[] #[{ accessFlags := 1, nameIndex := 5, descriptorIndex := 6, attributes := #[] }, { accessFlags := 9, nameIndex := 46, descriptorIndex := 47, attributes := #[] }] 49 2 #[] #[])
  fields := #[]
  methods := #[k1m0, k1m1]
  instanceTypes := #[]
  staticTypes := #[]
  resolved := Array.replicate 57 none
  statics := none }

def pool2 : Array CpInfo := pool [(1, .methodref 2 3), (0, .class_ 4), (0, .nameAndType 5 6), (0, u "com/example/mandoline/mandoline/Variable"), (0, u "<init>"), (0, u "(Ljava/lang/String;Lcom/example/mandoline/mandoline/ClangNode;Ljava/lang/String;Lcom/example/mandoline/mandoline/Variable;)V"), (0, .methodref 8 9), (0, .class_ 10), (0, .nameAndType 5 11), (0, u "java/lang/Object"), (0, u "()V"), (0, .class_ 13), (0, u "java/util/LinkedHashMap"), (0, .methodref 12 9), (0, .fieldref 2 16), (0, .nameAndType 17 18), (0, u "fields"), (0, u "Ljava/util/Map;"), (0, .interfaceMethodref 20 21), (0, .class_ 22), (0, .nameAndType 23 24), (0, u "java/util/List"), (0, u "of"), (0, u "()Ljava/util/List;"), (0, .fieldref 2 26), (0, .nameAndType 27 28), (0, u "declarationNodes"), (0, u "Ljava/util/List;"), (0, .fieldref 2 30), (0, .nameAndType 31 32), (0, u "name"), (0, u "Ljava/lang/String;"), (0, .fieldref 2 34), (0, .nameAndType 35 36), (0, u "declaringStatement"), (0, u "Lcom/example/mandoline/mandoline/ClangNode;"), (0, .fieldref 2 38), (0, .nameAndType 39 32), (0, u "function"), (0, .fieldref 2 41), (0, .nameAndType 42 43), (0, u "containing"), (0, u "Lcom/example/mandoline/mandoline/Variable;"), (0, .methodref 2 45), (0, .nameAndType 35 46), (0, u "()Lcom/example/mandoline/mandoline/ClangNode;"), (8, u "()Ljava/lang/String;"), (5, .class_ 63), (1, u "java/util/Map"), (1, u "(Ljava/lang/Object;)Ljava/lang/Object;"), (0, .methodref 67 68), (0, .class_ 69), (0, .nameAndType 70 55), (0, u "com/example/mandoline/mandoline/Place$Field"), (0, u "key"), (0, .invokeDynamic 0 72), (0, .nameAndType 73 74), (0, u "apply"), (0, u "(Lcom/example/mandoline/mandoline/Variable;Lcom/example/mandoline/mandoline/Place$Field;)Ljava/util/function/Function;"), (0, .interfaceMethodref 61 76), (0, .nameAndType 77 78), (0, u "computeIfAbsent"), (0, u "(Ljava/lang/Object;Ljava/util/function/Function;)Ljava/lang/Object;"), (1, .nameAndType 81 82), (0, u "isEmpty"), (0, u "()Z"), (36, .methodref 67 120), (0, .nameAndType 31 55), (0, .methodref 122 80), (0, .class_ 123), (0, u "java/lang/String"), (0, .class_ 125), (0, u "java/lang/StringBuilder"), (0, .methodref 124 9), (0, .methodref 124 128), (0, .nameAndType 129 130), (0, u "append"), (0, u "(Ljava/lang/String;)Ljava/lang/StringBuilder;"), (0, .string 132), (0, u "."), (0, .methodref 124 134), (0, .nameAndType 135 55), (0, u "toString"), (3, u "(Ljava/lang/String;Lcom/example/mandoline/mandoline/ClangNode;)V"), (11, u "(Ljava/lang/String;)Lcom/example/mandoline/mandoline/Variable;"), (0, u "addField"), (0, u "(Lcom/example/mandoline/mandoline/Place$Field;)Lcom/example/mandoline/mandoline/Variable;"), (1, u "lambda$addField$0"), (0, u "(Lcom/example/mandoline/mandoline/Place$Field;Ljava/lang/String;)Lcom/example/mandoline/mandoline/Variable;"), (3, .methodType 65), (0, .methodHandle 5 162), (0, .methodref 2 163), (0, .nameAndType 155 156), (0, .methodType 151), (0, .methodHandle 6 166), (0, .methodref 167 168), (0, .class_ 169), (0, .nameAndType 170 171), (0, u "java/lang/invoke/LambdaMetafactory"), (0, u "metafactory"), (0, u "(Ljava/lang/invoke/MethodHandles$Lookup;Ljava/lang/String;Ljava/lang/invoke/MethodType;Ljava/lang/invoke/MethodType;Ljava/lang/invoke/MethodHandle;Ljava/lang/invoke/MethodType;)Ljava/lang/invoke/CallSite;")] 9

def k2c0 : Code := { maxStack := 5, maxLocals := 3, code := prog_50_method_1_code, exceptionTable := #[], attributes := #[] }
def k2m0 : Method := { name := "<init>", desc := "(Ljava/lang/String;Lcom/example/mandoline/mandoline/ClangNode;)V", sig := { parameters := [(.object "java/lang/String"), (.object "com/example/mandoline/mandoline/ClangNode")], returnType := none }, accessFlags := 0, code := some k2c0 }
def k2c1 : Code := { maxStack := 3, maxLocals := 5, code := prog_50_method_3_code, exceptionTable := #[], attributes := #[] }
def k2m1 : Method := { name := "<init>", desc := "(Ljava/lang/String;Lcom/example/mandoline/mandoline/ClangNode;Ljava/lang/String;Lcom/example/mandoline/mandoline/Variable;)V", sig := { parameters := [(.object "java/lang/String"), (.object "com/example/mandoline/mandoline/ClangNode"), (.object "java/lang/String"), (.object "com/example/mandoline/mandoline/Variable")], returnType := none }, accessFlags := 2, code := some k2c1 }
def k2c2 : Code := { maxStack := 1, maxLocals := 1, code := prog_50_method_5_code, exceptionTable := #[], attributes := #[] }
def k2m2 : Method := { name := "declaringStatement", desc := "()Lcom/example/mandoline/mandoline/ClangNode;", sig := { parameters := [], returnType := some (.object "com/example/mandoline/mandoline/ClangNode") }, accessFlags := 0, code := some k2c2 }
def k2c3 : Code := { maxStack := 4, maxLocals := 2, code := prog_50_method_12_code, exceptionTable := #[], attributes := #[] }
def k2m3 : Method := { name := "addField", desc := "(Lcom/example/mandoline/mandoline/Place$Field;)Lcom/example/mandoline/mandoline/Variable;", sig := { parameters := [(.object "com/example/mandoline/mandoline/Place$Field")], returnType := some (.object "com/example/mandoline/mandoline/Variable") }, accessFlags := 0, code := some k2c3 }
def k2c4 : Code := { maxStack := 6, maxLocals := 3, code := prog_50_method_15_code, exceptionTable := #[], attributes := #[] }
def k2m4 : Method := { name := "lambda$addField$0", desc := "(Lcom/example/mandoline/mandoline/Place$Field;Ljava/lang/String;)Lcom/example/mandoline/mandoline/Variable;", sig := { parameters := [(.object "com/example/mandoline/mandoline/Place$Field"), (.object "java/lang/String")], returnType := some (.object "com/example/mandoline/mandoline/Variable") }, accessFlags := 4098, code := some k2c4 }
/-- com/example/mandoline/mandoline/Variable -/
def k2 : Class := { plain "com/example/mandoline/mandoline/Variable" (some 0) with
  accessFlags := 48
  interfaces := #[]
  cf := some (fileOf pool2 2 #[.bootstrapMethods #[⟨165, #[160, 161, 164]⟩]] #[{ accessFlags := 0, nameIndex := 5, descriptorIndex := 139, attributes := #[] }, { accessFlags := 2, nameIndex := 5, descriptorIndex := 6, attributes := #[] }, { accessFlags := 0, nameIndex := 35, descriptorIndex := 46, attributes := #[] }, { accessFlags := 0, nameIndex := 152, descriptorIndex := 153, attributes := #[] }, { accessFlags := 4098, nameIndex := 155, descriptorIndex := 156, attributes := #[] }] 48 8 #[] #[{ accessFlags := 18, nameIndex := 31, descriptorIndex := 32, attributes := #[] }, { accessFlags := 18, nameIndex := 35, descriptorIndex := 36, attributes := #[] }, { accessFlags := 18, nameIndex := 39, descriptorIndex := 32, attributes := #[] }, { accessFlags := 18, nameIndex := 42, descriptorIndex := 43, attributes := #[] }, { accessFlags := 18, nameIndex := 17, descriptorIndex := 18, attributes := #[] }, { accessFlags := 2, nameIndex := 27, descriptorIndex := 28, attributes := #[] }])
  fields := #[{ name := "name", type := (.object "java/lang/String"), accessFlags := 18, slot := 0, constantValue := 0 }, { name := "declaringStatement", type := (.object "com/example/mandoline/mandoline/ClangNode"), accessFlags := 18, slot := 1, constantValue := 0 }, { name := "function", type := (.object "java/lang/String"), accessFlags := 18, slot := 2, constantValue := 0 }, { name := "containing", type := (.object "com/example/mandoline/mandoline/Variable"), accessFlags := 18, slot := 3, constantValue := 0 }, { name := "fields", type := (.object "java/util/Map"), accessFlags := 18, slot := 4, constantValue := 0 }, { name := "declarationNodes", type := (.object "java/util/List"), accessFlags := 2, slot := 5, constantValue := 0 }]
  methods := #[k2m0, k2m1, k2m2, k2m3, k2m4]
  instanceTypes := #[(.object "java/lang/String"), (.object "com/example/mandoline/mandoline/ClangNode"), (.object "java/lang/String"), (.object "com/example/mandoline/mandoline/Variable"), (.object "java/util/Map"), (.object "java/util/List")]
  staticTypes := #[]
  resolved := Array.replicate 181 none
  callSites := [(3, 10, .makes 58)]
  statics := none }

def pool3 : Array CpInfo := pool [(1, .class_ 2), (0, u "java/io/Serializable"), (0, .class_ 4), (0, u "java/lang/Object")] 2

/-- java/io/Serializable -/
def k3 : Class := { plain "java/io/Serializable" (some 0) with
  accessFlags := 1537
  interfaces := #[]
  cf := some (fileOf pool3 1 #[] #[] 1537 3 #[] #[])
  fields := #[]
  methods := #[]
  instanceTypes := #[]
  staticTypes := #[]
  resolved := Array.replicate 7 none
  statics := none }

def pool4 : Array CpInfo := pool [(1, .class_ 2), (0, u "java/lang/Comparable"), (0, .class_ 4), (0, u "java/lang/Object")] 7

/-- java/lang/Comparable -/
def k4 : Class := { plain "java/lang/Comparable" (some 0) with
  accessFlags := 1537
  interfaces := #[]
  cf := some (fileOf pool4 1 #[] #[] 1537 3 #[] #[])
  fields := #[]
  methods := #[]
  instanceTypes := #[]
  staticTypes := #[]
  resolved := Array.replicate 12 none
  statics := none }

def pool5 : Array CpInfo := pool [(2, .class_ 4), (1, u "java/lang/CharSequence"), (42, .class_ 48), (0, u "java/lang/CharSequence$1CodePointIterator"), (10, .class_ 60), (0, u "java/lang/CharSequence$1CharIterator"), (5, .class_ 67), (0, u "java/lang/Object")] 63

/-- java/lang/CharSequence -/
def k5 : Class := { plain "java/lang/CharSequence" (some 0) with
  accessFlags := 1537
  interfaces := #[]
  cf := some (fileOf pool5 2 #[.nestMembers #[47, 59]] #[] 1537 66 #[] #[])
  fields := #[]
  methods := #[]
  instanceTypes := #[]
  staticTypes := #[]
  resolved := Array.replicate 131 none
  statics := none }

def pool6 : Array CpInfo := pool [(1, .class_ 2), (0, u "java/lang/constant/Constable"), (0, .class_ 4), (0, u "java/lang/Object")] 6

/-- java/lang/constant/Constable -/
def k6 : Class := { plain "java/lang/constant/Constable" (some 0) with
  accessFlags := 1537
  interfaces := #[]
  cf := some (fileOf pool6 1 #[] #[] 1537 3 #[] #[])
  fields := #[]
  methods := #[]
  instanceTypes := #[]
  staticTypes := #[]
  resolved := Array.replicate 11 none
  statics := none }

def pool7 : Array CpInfo := pool [(1, .class_ 2), (0, u "java/lang/constant/ConstantDesc"), (0, .class_ 4), (0, u "java/lang/Object")] 32

/-- java/lang/constant/ConstantDesc -/
def k7 : Class := { plain "java/lang/constant/ConstantDesc" (some 0) with
  accessFlags := 1537
  interfaces := #[]
  cf := some (fileOf pool7 1 #[] #[] 1537 3 #[] #[])
  fields := #[]
  methods := #[]
  instanceTypes := #[]
  staticTypes := #[]
  resolved := Array.replicate 37 none
  statics := none }

def pool8 : Array CpInfo := pool [(1, .methodref 2 3), (0, .class_ 4), (0, .nameAndType 5 6), (0, u "java/lang/Object"), (0, u "<init>"), (0, u "()V"), (2, .fieldref 10 11), (0, .class_ 12), (0, .nameAndType 13 14), (0, u "java/lang/String"), (0, u "value"), (0, u "[B"), (0, .fieldref 10 16), (0, .nameAndType 17 18), (0, u "coder"), (0, u "B"), (0, .fieldref 10 20), (0, .nameAndType 21 22), (0, u "hash"), (0, u "I"), (0, .fieldref 10 24), (0, .nameAndType 25 26), (0, u "hashIsZero"), (0, u "Z"), (0, .methodref 10 28), (0, .nameAndType 5 29), (0, u "([CIILjava/lang/Void;)V"), (8, .fieldref 10 39), (0, .nameAndType 40 26), (0, u "COMPACT_STRINGS"), (1, .class_ 44), (1, u "java/lang/StringUTF16"), (0, u "compress"), (1, .methodref 42 48), (0, .nameAndType 49 50), (0, u "coderFromArrayLen"), (0, u "([BI)B"), (2, u "toBytes"), (0, .methodref 55 56), (0, .class_ 57), (0, .nameAndType 58 59), (0, u "java/util/Arrays"), (0, u "copyOfRange"), (0, u "([BII)[B"), (47, .class_ 109), (1, u "java/lang/StringLatin1"), (32, u "()Z"), (34, .methodref 42 178), (0, .nameAndType 45 179), (0, u "([CII)[B"), (13, .class_ 195), (1, u "java/lang/System"), (13, .methodref 10 210), (0, .nameAndType 5 211), (0, u "([BB)V"), (0, .methodref 193 213), (0, .nameAndType 214 215), (0, u "arraycopy"), (0, u "(Ljava/lang/Object;ILjava/lang/Object;II)V"), (118, u "()I"), (0, .methodref 10 336), (0, .nameAndType 17 337), (0, u "()B"), (2, u "()[B"), (28, u "(C)Z"), (119, .methodref 10 490), (0, .nameAndType 5 491), (0, u "(Ljava/lang/AbstractStringBuilder;Ljava/lang/Void;)V"), (0, .methodref 10 493), (0, .nameAndType 494 142), (0, u "isLatin1"), (11, .nameAndType 507 334), (0, u "length"), (24, u "getBytes"), (16, .methodref 550 506), (0, .class_ 551), (0, u "java/lang/AbstractStringBuilder"), (0, .methodref 550 553), (0, .nameAndType 554 340), (0, u "getValue"), (20, .class_ 576), (0, u "java/lang/CharSequence"), (22, u "CASE_INSENSITIVE_ORDER"), (0, u "Ljava/util/Comparator;"), (27, .methodref 107 629), (0, .nameAndType 630 631), (0, u "hashCode"), (0, u "([B)I"), (60, u "isEmpty"), (89, u "valueOf"), (0, u "(C)Ljava/lang/String;"), (37, u "([BIB)V"), (188, u "([C)V"), (4, .methodref 107 1016), (0, .nameAndType 1017 369), (0, u "canEncode"), (0, .methodref 107 1019), (0, .nameAndType 53 1020), (0, u "(C)[B"), (26, .methodref 550 493), (53, u "serialPersistentFields"), (0, u "[Ljava/io/ObjectStreamField;"), (0, .class_ 1104), (0, u "java/lang/String$CaseInsensitiveComparator"), (1, .class_ 1107), (0, u "java/io/Serializable"), (0, .class_ 1109), (0, u "java/lang/Comparable"), (0, .class_ 1111), (0, u "java/lang/constant/Constable"), (0, .class_ 1113), (0, u "java/lang/constant/ConstantDesc"), (2, u "serialVersionUID"), (0, u "J"), (3, u "REPL"), (0, u "C"), (2, u "LATIN1"), (1, u "UTF16"), (105, u "(Ljava/lang/StringBuilder;)V")] 217

def k8m0 : Method := { name := "<init>", desc := "()V", sig := { parameters := [], returnType := none }, accessFlags := 1, code := none }
def k8c1 : Code := { maxStack := 5, maxLocals := 2, code := jdk_42_method_3_code, exceptionTable := #[], attributes := #[] }
def k8m1 : Method := { name := "<init>", desc := "([C)V", sig := { parameters := [(.array .char)], returnType := none }, accessFlags := 1, code := some k8c1 }
def k8c2 : Code := { maxStack := 3, maxLocals := 2, code := jdk_42_method_53_code, exceptionTable := #[], attributes := #[] }
def k8m2 : Method := { name := "<init>", desc := "(Ljava/lang/StringBuilder;)V", sig := { parameters := [(.object "java/lang/StringBuilder")], returnType := none }, accessFlags := 1, code := some k8c2 }
def k8c3 : Code := { maxStack := 2, maxLocals := 1, code := jdk_42_method_54_code, exceptionTable := #[], attributes := #[] }
def k8m3 : Method := { name := "length", desc := "()I", sig := { parameters := [], returnType := some .int }, accessFlags := 1, code := some k8c3 }
def k8c4 : Code := { maxStack := 1, maxLocals := 1, code := jdk_42_method_55_code, exceptionTable := #[], attributes := #[] }
def k8m4 : Method := { name := "isEmpty", desc := "()Z", sig := { parameters := [], returnType := some .boolean }, accessFlags := 1, code := some k8c4 }
def k8c5 : Code := { maxStack := 2, maxLocals := 2, code := jdk_42_method_78_code, exceptionTable := #[], attributes := #[] }
def k8m5 : Method := { name := "hashCode", desc := "()I", sig := { parameters := [], returnType := some .int }, accessFlags := 1, code := some k8c5 }
def k8c6 : Code := { maxStack := 4, maxLocals := 1, code := jdk_42_method_139_code, exceptionTable := #[], attributes := #[] }
def k8m6 : Method := { name := "valueOf", desc := "(C)Ljava/lang/String;", sig := { parameters := [.char], returnType := some (.object "java/lang/String") }, accessFlags := 9, code := some k8c6 }
def k8c7 : Code := { maxStack := 5, maxLocals := 4, code := jdk_42_method_147_code, exceptionTable := #[], attributes := #[] }
def k8m7 : Method := { name := "getBytes", desc := "([BIB)V", sig := { parameters := [(.array .byte), .int, .byte], returnType := none }, accessFlags := 0, code := some k8c7 }
def k8c8 : Code := { maxStack := 4, maxLocals := 6, code := jdk_42_method_149_code, exceptionTable := #[], attributes := #[] }
def k8m8 : Method := { name := "<init>", desc := "([CIILjava/lang/Void;)V", sig := { parameters := [(.array .char), .int, .int, (.object "java/lang/Void")], returnType := none }, accessFlags := 2, code := some k8c8 }
def k8c9 : Code := { maxStack := 5, maxLocals := 5, code := jdk_42_method_150_code, exceptionTable := #[], attributes := #[] }
def k8m9 : Method := { name := "<init>", desc := "(Ljava/lang/AbstractStringBuilder;Ljava/lang/Void;)V", sig := { parameters := [(.object "java/lang/AbstractStringBuilder"), (.object "java/lang/Void")], returnType := none }, accessFlags := 0, code := some k8c9 }
def k8c10 : Code := { maxStack := 2, maxLocals := 3, code := jdk_42_method_151_code, exceptionTable := #[], attributes := #[] }
def k8m10 : Method := { name := "<init>", desc := "([BB)V", sig := { parameters := [(.array .byte), .byte], returnType := none }, accessFlags := 0, code := some k8c10 }
def k8c11 : Code := { maxStack := 1, maxLocals := 1, code := jdk_42_method_152_code, exceptionTable := #[], attributes := #[] }
def k8m11 : Method := { name := "coder", desc := "()B", sig := { parameters := [], returnType := some .byte }, accessFlags := 0, code := some k8c11 }
def k8c12 : Code := { maxStack := 1, maxLocals := 1, code := jdk_42_method_154_code, exceptionTable := #[], attributes := #[] }
def k8m12 : Method := { name := "isLatin1", desc := "()Z", sig := { parameters := [], returnType := some .boolean }, accessFlags := 0, code := some k8c12 }
/-- java/lang/String -/
def k8 : Class := { plain "java/lang/String" (some 0) with
  accessFlags := 49
  interfaces := #[3, 4, 5, 6, 7]
  cf := some (fileOf pool8 10 #[.nestMembers #[1103]] #[{ accessFlags := 1, nameIndex := 5, descriptorIndex := 6, attributes := #[] }, { accessFlags := 1, nameIndex := 5, descriptorIndex := 1010, attributes := #[] }, { accessFlags := 1, nameIndex := 5, descriptorIndex := 1233, attributes := #[] }, { accessFlags := 1, nameIndex := 507, descriptorIndex := 334, attributes := #[] }, { accessFlags := 1, nameIndex := 692, descriptorIndex := 142, attributes := #[] }, { accessFlags := 1, nameIndex := 630, descriptorIndex := 334, attributes := #[] }, { accessFlags := 9, nameIndex := 782, descriptorIndex := 783, attributes := #[] }, { accessFlags := 0, nameIndex := 532, descriptorIndex := 821, attributes := #[] }, { accessFlags := 2, nameIndex := 5, descriptorIndex := 29, attributes := #[] }, { accessFlags := 0, nameIndex := 5, descriptorIndex := 491, attributes := #[] }, { accessFlags := 0, nameIndex := 5, descriptorIndex := 211, attributes := #[] }, { accessFlags := 0, nameIndex := 17, descriptorIndex := 337, attributes := #[] }, { accessFlags := 0, nameIndex := 494, descriptorIndex := 142, attributes := #[] }] 49 2 #[1106, 1108, 575, 1110, 1112] #[{ accessFlags := 18, nameIndex := 13, descriptorIndex := 14, attributes := #[] }, { accessFlags := 18, nameIndex := 17, descriptorIndex := 18, attributes := #[] }, { accessFlags := 2, nameIndex := 21, descriptorIndex := 22, attributes := #[] }, { accessFlags := 2, nameIndex := 25, descriptorIndex := 26, attributes := #[] }, { accessFlags := 26, nameIndex := 1116, descriptorIndex := 1117, attributes := #[] }, { accessFlags := 24, nameIndex := 40, descriptorIndex := 26, attributes := #[] }, { accessFlags := 26, nameIndex := 1101, descriptorIndex := 1102, attributes := #[] }, { accessFlags := 26, nameIndex := 1121, descriptorIndex := 1122, attributes := #[] }, { accessFlags := 25, nameIndex := 599, descriptorIndex := 600, attributes := #[] }, { accessFlags := 24, nameIndex := 1125, descriptorIndex := 18, attributes := #[] }, { accessFlags := 24, nameIndex := 1127, descriptorIndex := 18, attributes := #[] }])
  fields := #[{ name := "value", type := (.array .byte), accessFlags := 18, slot := 0, constantValue := 0 }, { name := "coder", type := .byte, accessFlags := 18, slot := 1, constantValue := 0 }, { name := "hash", type := .int, accessFlags := 2, slot := 2, constantValue := 0 }, { name := "hashIsZero", type := .boolean, accessFlags := 2, slot := 3, constantValue := 0 }, { name := "serialVersionUID", type := .long, accessFlags := 26, slot := 0, constantValue := 0 }, { name := "COMPACT_STRINGS", type := .boolean, accessFlags := 24, slot := 1, constantValue := 0 }, { name := "serialPersistentFields", type := (.array (.object "java/io/ObjectStreamField")), accessFlags := 26, slot := 2, constantValue := 0 }, { name := "REPL", type := .char, accessFlags := 26, slot := 3, constantValue := 0 }, { name := "CASE_INSENSITIVE_ORDER", type := (.object "java/util/Comparator"), accessFlags := 25, slot := 4, constantValue := 0 }, { name := "LATIN1", type := .byte, accessFlags := 24, slot := 5, constantValue := 0 }, { name := "UTF16", type := .byte, accessFlags := 24, slot := 6, constantValue := 0 }]
  methods := #[k8m0, k8m1, k8m2, k8m3, k8m4, k8m5, k8m6, k8m7, k8m8, k8m9, k8m10, k8m11, k8m12]
  instanceTypes := #[(.array .byte), .byte, .int, .boolean]
  staticTypes := #[.long, .boolean, (.array (.object "java/io/ObjectStreamField")), .char, (.object "java/util/Comparator"), .byte, .byte]
  resolved := Array.replicate 1451 none
  statics := some 0 }

def pool9 : Array CpInfo := pool [(4, .class_ 6), (1, u "java/lang/Object"), (0, u "<init>"), (0, u "()V"), (5, .class_ 16), (1, u "java/lang/StringLatin1"), (40, u "([B)I"), (32, u "canEncode"), (14, u "(C)Z"), (15, u "$assertionsDisabled"), (0, u "Z"), (98, .class_ 223), (1, u "java/lang/StringLatin1$LinesSpliterator"), (74, u "hashCode"), (81, u "toBytes"), (1, u "(C)[B"), (7, .class_ 391), (0, u "java/lang/StringLatin1$CharsSpliterator")] 3

def k9m0 : Method := { name := "<init>", desc := "()V", sig := { parameters := [], returnType := none }, accessFlags := 0, code := none }
def k9c1 : Code := { maxStack := 2, maxLocals := 1, code := jdk_43_method_3_code, exceptionTable := #[], attributes := #[] }
def k9m1 : Method := { name := "canEncode", desc := "(C)Z", sig := { parameters := [.char], returnType := some .boolean }, accessFlags := 9, code := some k9c1 }
def k9c2 : Code := { maxStack := 5, maxLocals := 1, code := jdk_43_method_21_code, exceptionTable := #[], attributes := #[] }
def k9m2 : Method := { name := "hashCode", desc := "([B)I", sig := { parameters := [(.array .byte)], returnType := some .int }, accessFlags := 9, code := some k9c2 }
def k9c3 : Code := { maxStack := 4, maxLocals := 1, code := jdk_43_method_46_code, exceptionTable := #[], attributes := #[] }
def k9m3 : Method := { name := "toBytes", desc := "(C)[B", sig := { parameters := [.char], returnType := some (.array .byte) }, accessFlags := 9, code := some k9c3 }
/-- java/lang/StringLatin1 -/
def k9 : Class := { plain "java/lang/StringLatin1" (some 0) with
  accessFlags := 48
  interfaces := #[]
  cf := some (fileOf pool9 14 #[.nestMembers #[390, 221]] #[{ accessFlags := 0, nameIndex := 7, descriptorIndex := 8, attributes := #[] }, { accessFlags := 9, nameIndex := 90, descriptorIndex := 105, attributes := #[] }, { accessFlags := 9, nameIndex := 298, descriptorIndex := 57, attributes := #[] }, { accessFlags := 9, nameIndex := 380, descriptorIndex := 382, attributes := #[] }] 48 4 #[] #[{ accessFlags := 4120, nameIndex := 121, descriptorIndex := 122, attributes := #[] }])
  fields := #[{ name := "$assertionsDisabled", type := .boolean, accessFlags := 4120, slot := 0, constantValue := 0 }]
  methods := #[k9m0, k9m1, k9m2, k9m3]
  instanceTypes := #[]
  staticTypes := #[.boolean]
  resolved := Array.replicate 395 none
  statics := none }

def pool10 : Array CpInfo := pool [(2, .class_ 4), (1, u "java/util/Map"), (31, .class_ 37), (0, u "java/util/Map$Entry"), (55, .class_ 94), (0, u "java/lang/Object"), (85, u "computeIfAbsent"), (0, u "(Ljava/lang/Object;Ljava/util/function/Function;)Ljava/lang/Object;")] 81

def k10c0 : Code := { maxStack := 3, maxLocals := 5, code := ⟨#[0x2c, 0xb8, 0x00, 0x0b, 0x57, 0x2a, 0x2b, 0xb9, 0x00, 0x01, 0x02, 0x00, 0x59, 0x4e, 0xc7, 0x00, 0x1d, 0x2c, 0x2b, 0xb9, 0x00, 0x4d, 0x02, 0x00, 0x59, 0x3a, 0x04, 0xc6, 0x00, 0x10, 0x2a, 0x2b, 0x19, 0x04, 0xb9, 0x00, 0x43, 0x03, 0x00, 0x57, 0x19, 0x04, 0xb0, 0x2d, 0xb0]⟩, exceptionTable := #[], attributes := #[] }
def k10m0 : Method := { name := "computeIfAbsent", desc := "(Ljava/lang/Object;Ljava/util/function/Function;)Ljava/lang/Object;", sig := { parameters := [(.object "java/lang/Object"), (.object "java/util/function/Function")], returnType := some (.object "java/lang/Object") }, accessFlags := 1, code := some k10c0 }
/-- java/util/Map -/
def k10 : Class := { plain "java/util/Map" (some 0) with
  accessFlags := 1537
  interfaces := #[]
  cf := some (fileOf pool10 2 #[.nestMembers #[36]] #[{ accessFlags := 1, nameIndex := 180, descriptorIndex := 181, attributes := #[] }] 1537 93 #[] #[])
  fields := #[]
  methods := #[k10m0]
  instanceTypes := #[]
  staticTypes := #[]
  resolved := Array.replicate 263 none
  statics := none }

def pool11 : Array CpInfo := pool [(1, .methodref 2 3), (0, .class_ 4), (0, .nameAndType 5 6), (0, u "java/lang/Object"), (0, u "<init>"), (0, u "()V"), (1, .class_ 10), (1, u "java/util/AbstractMap"), (42, .class_ 54), (0, u "java/util/Map"), (9, u "keySet"), (0, u "Ljava/util/Set;"), (0, .class_ 67), (0, u "java/util/AbstractMap$1"), (5, u "values"), (0, u "Ljava/util/Collection;"), (0, .class_ 76), (0, u "java/util/AbstractMap$2"), (104, .class_ 182), (0, u "java/util/AbstractMap$ViewCollection"), (0, .class_ 184), (0, u "java/util/AbstractMap$SimpleImmutableEntry"), (0, .class_ 186), (0, u "java/util/AbstractMap$SimpleEntry"), (0, .class_ 188), (0, u "java/util/AbstractMap$2$1"), (0, .class_ 190), (0, u "java/util/AbstractMap$1$1")] 5

def k11c0 : Code := { maxStack := 1, maxLocals := 1, code := jdk_71_method_1_code, exceptionTable := #[], attributes := #[] }
def k11m0 : Method := { name := "<init>", desc := "()V", sig := { parameters := [], returnType := none }, accessFlags := 4, code := some k11c0 }
/-- java/util/AbstractMap -/
def k11 : Class := { plain "java/util/AbstractMap" (some 0) with
  accessFlags := 1057
  interfaces := #[10]
  cf := some (fileOf pool11 8 #[.nestMembers #[181, 183, 185, 75, 187, 66, 189]] #[{ accessFlags := 4, nameIndex := 5, descriptorIndex := 6, attributes := #[] }] 1057 2 #[53] #[{ accessFlags := 128, nameIndex := 64, descriptorIndex := 65, attributes := #[] }, { accessFlags := 128, nameIndex := 73, descriptorIndex := 74, attributes := #[] }])
  fields := #[{ name := "keySet", type := (.object "java/util/Set"), accessFlags := 128, slot := 0, constantValue := 0 }, { name := "values", type := (.object "java/util/Collection"), accessFlags := 128, slot := 1, constantValue := 0 }]
  methods := #[k11m0]
  instanceTypes := #[(.object "java/util/Set"), (.object "java/util/Collection")]
  staticTypes := #[]
  resolved := Array.replicate 196 none
  statics := none }

def pool12 : Array CpInfo := pool [(1, .class_ 2), (0, u "java/lang/Cloneable"), (0, .class_ 4), (0, u "java/lang/Object")] 2

/-- java/lang/Cloneable -/
def k12 : Class := { plain "java/lang/Cloneable" (some 0) with
  accessFlags := 1537
  interfaces := #[]
  cf := some (fileOf pool12 1 #[] #[] 1537 3 #[] #[])
  fields := #[]
  methods := #[]
  instanceTypes := #[]
  staticTypes := #[]
  resolved := Array.replicate 7 none
  statics := none }

def pool13 : Array CpInfo := pool [(1, .methodref 2 3), (0, .class_ 4), (0, .nameAndType 5 6), (0, u "java/lang/Object"), (0, u "hashCode"), (0, u "()I"), (26, u "(Ljava/lang/Object;)I"), (6, .class_ 41), (0, u "java/util/HashMap"), (1, .methodref 44 45), (0, .class_ 46), (0, .nameAndType 47 48), (0, u "java/util/AbstractMap"), (0, u "<init>"), (0, u "()V"), (32, .fieldref 40 82), (0, .nameAndType 83 84), (0, u "loadFactor"), (0, u "F"), (3, .fieldref 40 89), (0, .nameAndType 90 91), (0, u "threshold"), (0, u "I"), (0, .float 1061158912), (8, .class_ 103), (1, u "java/util/Map"), (0, u "size"), (0, .fieldref 40 106), (0, .nameAndType 107 108), (0, u "table"), (0, u "[Ljava/util/HashMap$Node;"), (8, .methodref 40 118), (0, .nameAndType 119 120), (0, u "resize"), (0, u "()[Ljava/util/HashMap$Node;"), (2, u "entrySet"), (25, .methodref 40 150), (0, .nameAndType 151 33), (0, u "hash"), (4, .fieldref 40 157), (0, .nameAndType 104 91), (5, .class_ 165), (1, u "java/util/HashMap$Node"), (14, .class_ 181), (0, u "java/util/HashMap$TreeNode"), (4, .methodref 40 187), (0, .nameAndType 188 189), (0, u "newNode"), (0, u "(ILjava/lang/Object;Ljava/lang/Object;Ljava/util/HashMap$Node;)Ljava/util/HashMap$Node;"), (12, .fieldref 40 203), (0, .nameAndType 204 91), (0, u "modCount"), (0, .methodref 40 206), (0, .nameAndType 207 208), (0, u "afterNodeInsertion"), (0, u "(Z)V"), (33, u "Ljava/util/Set;"), (0, .class_ 244), (0, u "java/util/HashMap$KeySet"), (18, .class_ 264), (0, u "java/util/HashMap$Values"), (3, .class_ 269), (0, u "java/util/HashMap$EntrySet"), (4, .interfaceMethodref 275 276), (0, .class_ 277), (0, .nameAndType 278 279), (0, u "java/util/function/Function"), (0, u "apply"), (0, u "(Ljava/lang/Object;)Ljava/lang/Object;"), (66, .class_ 348), (1, u "java/util/HashMap$UnsafeHolder"), (43, .class_ 393), (0, u "java/lang/Cloneable"), (0, .class_ 395), (0, u "java/io/Serializable"), (0, u "serialVersionUID"), (0, u "J"), (3, u "DEFAULT_INITIAL_CAPACITY"), (1, u "MAXIMUM_CAPACITY"), (0, u "DEFAULT_LOAD_FACTOR"), (0, u "TREEIFY_THRESHOLD"), (1, u "UNTREEIFY_THRESHOLD"), (1, u "MIN_TREEIFY_CAPACITY"), (123, u "computeIfAbsent"), (0, u "(Ljava/lang/Object;Ljava/util/function/Function;)Ljava/lang/Object;"), (61, .class_ 597), (0, u "java/util/HashMap$EntrySpliterator"), (0, .class_ 599), (0, u "java/util/HashMap$ValueSpliterator"), (0, .class_ 601), (0, u "java/util/HashMap$KeySpliterator"), (0, .class_ 603), (0, u "java/util/HashMap$HashMapSpliterator"), (0, .class_ 605), (0, u "java/util/HashMap$EntryIterator"), (0, .class_ 607), (0, u "java/util/HashMap$ValueIterator"), (0, .class_ 609), (0, u "java/util/HashMap$KeyIterator"), (0, .class_ 611), (0, u "java/util/HashMap$HashIterator")] 17

def k13c0 : Code := { maxStack := 3, maxLocals := 2, code := jdk_69_method_1_code, exceptionTable := #[], attributes := #[] }
def k13m0 : Method := { name := "hash", desc := "(Ljava/lang/Object;)I", sig := { parameters := [(.object "java/lang/Object")], returnType := some .int }, accessFlags := 24, code := some k13c0 }
def k13c1 : Code := { maxStack := 2, maxLocals := 1, code := jdk_69_method_7_code, exceptionTable := #[], attributes := #[] }
def k13m1 : Method := { name := "<init>", desc := "()V", sig := { parameters := [], returnType := none }, accessFlags := 1, code := some k13c1 }
def k13c2 : Code := { maxStack := 5, maxLocals := 14, code := jdk_69_method_17_code, exceptionTable := #[], attributes := #[] }
def k13m2 : Method := { name := "resize", desc := "()[Ljava/util/HashMap$Node;", sig := { parameters := [], returnType := some (.array (.object "java/util/HashMap$Node")) }, accessFlags := 16, code := some k13c2 }
def k13c3 : Code := { maxStack := 7, maxLocals := 13, code := jdk_69_method_35_code, exceptionTable := #[], attributes := #[] }
def k13m3 : Method := { name := "computeIfAbsent", desc := "(Ljava/lang/Object;Ljava/util/function/Function;)Ljava/lang/Object;", sig := { parameters := [(.object "java/lang/Object"), (.object "java/util/function/Function")], returnType := some (.object "java/lang/Object") }, accessFlags := 1, code := some k13c3 }
def k13c4 : Code := { maxStack := 6, maxLocals := 5, code := ⟨#[0xbb, 0x00, 0xa3, 0x59, 0x1b, 0x2c, 0x2d, 0x19, 0x04, 0xb7, 0x01, 0x77, 0xb0]⟩, exceptionTable := #[], attributes := #[] }
def k13m4 : Method := { name := "newNode", desc := "(ILjava/lang/Object;Ljava/lang/Object;Ljava/util/HashMap$Node;)Ljava/util/HashMap$Node;", sig := { parameters := [.int, (.object "java/lang/Object"), (.object "java/lang/Object"), (.object "java/util/HashMap$Node")], returnType := some (.object "java/util/HashMap$Node") }, accessFlags := 0, code := some k13c4 }
def k13c5 : Code := { maxStack := 0, maxLocals := 2, code := ⟨#[0xb1]⟩, exceptionTable := #[], attributes := #[] }
def k13m5 : Method := { name := "afterNodeInsertion", desc := "(Z)V", sig := { parameters := [.boolean], returnType := none }, accessFlags := 0, code := some k13c5 }
/-- java/util/HashMap -/
def k13 : Class := { plain "java/util/HashMap" (some 11) with
  accessFlags := 33
  interfaces := #[10, 12, 3]
  cf := some (fileOf pool13 40 #[.nestMembers #[180, 596, 598, 600, 602, 604, 606, 608, 610, 346, 268, 263, 243, 163]] #[{ accessFlags := 24, nameIndex := 151, descriptorIndex := 33, attributes := #[] }, { accessFlags := 1, nameIndex := 47, descriptorIndex := 48, attributes := #[] }, { accessFlags := 16, nameIndex := 119, descriptorIndex := 120, attributes := #[] }, { accessFlags := 1, nameIndex := 533, descriptorIndex := 534, attributes := #[] }, { accessFlags := 0, nameIndex := 188, descriptorIndex := 189, attributes := #[] }, { accessFlags := 0, nameIndex := 207, descriptorIndex := 208, attributes := #[] }] 33 44 #[101, 392, 394] #[{ accessFlags := 26, nameIndex := 396, descriptorIndex := 397, attributes := #[] }, { accessFlags := 24, nameIndex := 401, descriptorIndex := 91, attributes := #[] }, { accessFlags := 24, nameIndex := 403, descriptorIndex := 91, attributes := #[] }, { accessFlags := 24, nameIndex := 404, descriptorIndex := 84, attributes := #[] }, { accessFlags := 24, nameIndex := 405, descriptorIndex := 91, attributes := #[] }, { accessFlags := 24, nameIndex := 407, descriptorIndex := 91, attributes := #[] }, { accessFlags := 24, nameIndex := 409, descriptorIndex := 91, attributes := #[] }, { accessFlags := 128, nameIndex := 107, descriptorIndex := 108, attributes := #[] }, { accessFlags := 128, nameIndex := 123, descriptorIndex := 242, attributes := #[] }, { accessFlags := 128, nameIndex := 104, descriptorIndex := 91, attributes := #[] }, { accessFlags := 128, nameIndex := 204, descriptorIndex := 91, attributes := #[] }, { accessFlags := 0, nameIndex := 90, descriptorIndex := 91, attributes := #[] }, { accessFlags := 16, nameIndex := 83, descriptorIndex := 84, attributes := #[] }])
  fields := #[{ name := "serialVersionUID", type := .long, accessFlags := 26, slot := 0, constantValue := 0 }, { name := "DEFAULT_INITIAL_CAPACITY", type := .int, accessFlags := 24, slot := 1, constantValue := 0 }, { name := "MAXIMUM_CAPACITY", type := .int, accessFlags := 24, slot := 2, constantValue := 0 }, { name := "DEFAULT_LOAD_FACTOR", type := .float, accessFlags := 24, slot := 3, constantValue := 0 }, { name := "TREEIFY_THRESHOLD", type := .int, accessFlags := 24, slot := 4, constantValue := 0 }, { name := "UNTREEIFY_THRESHOLD", type := .int, accessFlags := 24, slot := 5, constantValue := 0 }, { name := "MIN_TREEIFY_CAPACITY", type := .int, accessFlags := 24, slot := 6, constantValue := 0 }, { name := "table", type := (.array (.object "java/util/HashMap$Node")), accessFlags := 128, slot := 2, constantValue := 0 }, { name := "entrySet", type := (.object "java/util/Set"), accessFlags := 128, slot := 3, constantValue := 0 }, { name := "size", type := .int, accessFlags := 128, slot := 4, constantValue := 0 }, { name := "modCount", type := .int, accessFlags := 128, slot := 5, constantValue := 0 }, { name := "threshold", type := .int, accessFlags := 0, slot := 6, constantValue := 0 }, { name := "loadFactor", type := .float, accessFlags := 16, slot := 7, constantValue := 0 }]
  methods := #[k13m0, k13m1, k13m2, k13m3, k13m4, k13m5]
  instanceTypes := #[(.object "java/util/Set"), (.object "java/util/Collection"), (.array (.object "java/util/HashMap$Node")), (.object "java/util/Set"), .int, .int, .int, .float]
  staticTypes := #[.long, .int, .int, .float, .int, .int, .int]
  resolved := Array.replicate 629 none
  statics := none }

def pool14 : Array CpInfo := pool [(2, .class_ 4), (1, u "java/util/SequencedMap"), (38, .class_ 44), (0, u "java/util/SequencedMap$1SeqKeySet"), (3, .class_ 49), (0, u "java/util/SequencedMap$1SeqValues"), (1, .class_ 52), (0, u "java/util/SequencedMap$1SeqEntrySet"), (1, .class_ 55), (0, u "java/lang/Object"), (0, .class_ 57), (0, u "java/util/Map")] 48

/-- java/util/SequencedMap -/
def k14 : Class := { plain "java/util/SequencedMap" (some 0) with
  accessFlags := 1537
  interfaces := #[10]
  cf := some (fileOf pool14 2 #[.nestMembers #[51, 48, 43]] #[] 1537 54 #[56] #[])
  fields := #[]
  methods := #[]
  instanceTypes := #[]
  staticTypes := #[]
  resolved := Array.replicate 106 none
  statics := none }

def pool15 : Array CpInfo := pool [(1, .fieldref 2 3), (0, .class_ 4), (0, .nameAndType 5 6), (0, u "java/util/LinkedHashMap"), (0, u "putMode"), (0, u "I"), (0, .fieldref 2 8), (0, .nameAndType 9 10), (0, u "head"), (0, u "Ljava/util/LinkedHashMap$Entry;"), (0, .fieldref 2 12), (0, .nameAndType 13 10), (0, u "tail"), (1, .class_ 17), (1, u "java/util/LinkedHashMap$Entry"), (5, .class_ 25), (1, u "java/util/HashMap"), (1, u "()V"), (0, .methodref 15 29), (0, .nameAndType 30 31), (0, u "<init>"), (0, u "(ILjava/lang/Object;Ljava/lang/Object;Ljava/util/HashMap$Node;)V"), (0, .methodref 2 33), (0, .nameAndType 34 35), (0, u "linkNodeAtEnd"), (0, u "(Ljava/util/LinkedHashMap$Entry;)V"), (17, .methodref 2 54), (0, .nameAndType 55 56), (0, u "removeEldestEntry"), (0, u "(Ljava/util/Map$Entry;)Z"), (7, .fieldref 2 65), (0, .nameAndType 66 67), (0, u "accessOrder"), (0, u "Z"), (19, .methodref 23 88), (0, .nameAndType 30 27), (32, .class_ 122), (0, u "java/util/LinkedHashMap$LinkedKeySet"), (20, .class_ 144), (0, u "java/util/LinkedHashMap$LinkedValues"), (9, .class_ 155), (0, u "java/util/LinkedHashMap$LinkedEntrySet"), (44, .class_ 201), (0, u "java/util/LinkedHashMap$ReversedLinkedHashMapView"), (3, .class_ 206), (0, u "java/util/SequencedMap"), (0, u "serialVersionUID"), (0, u "J"), (5, u "PUT_NORM"), (1, u "PUT_FIRST"), (1, u "PUT_LAST"), (18, u "newNode"), (0, u "(ILjava/lang/Object;Ljava/lang/Object;Ljava/util/HashMap$Node;)Ljava/util/HashMap$Node;"), (22, u "afterNodeInsertion"), (0, u "(Z)V"), (99, .class_ 363), (0, u "java/util/LinkedHashMap$LinkedEntryIterator"), (0, .class_ 365), (0, u "java/util/LinkedHashMap$LinkedValueIterator"), (0, .class_ 367), (0, u "java/util/LinkedHashMap$LinkedKeyIterator"), (0, .class_ 369), (0, u "java/util/LinkedHashMap$LinkedHashIterator")] 16

def k15c0 : Code := { maxStack := 2, maxLocals := 3, code := jdk_94_method_1_code, exceptionTable := #[], attributes := #[] }
def k15m0 : Method := { name := "linkNodeAtEnd", desc := "(Ljava/util/LinkedHashMap$Entry;)V", sig := { parameters := [(.object "java/util/LinkedHashMap$Entry")], returnType := none }, accessFlags := 2, code := some k15c0 }
def k15c1 : Code := { maxStack := 6, maxLocals := 6, code := jdk_94_method_4_code, exceptionTable := #[], attributes := #[] }
def k15m1 : Method := { name := "newNode", desc := "(ILjava/lang/Object;Ljava/lang/Object;Ljava/util/HashMap$Node;)Ljava/util/HashMap$Node;", sig := { parameters := [.int, (.object "java/lang/Object"), (.object "java/lang/Object"), (.object "java/util/HashMap$Node")], returnType := some (.object "java/util/HashMap$Node") }, accessFlags := 0, code := some k15c1 }
def k15c2 : Code := { maxStack := 6, maxLocals := 4, code := jdk_94_method_9_code, exceptionTable := #[], attributes := #[] }
def k15m2 : Method := { name := "afterNodeInsertion", desc := "(Z)V", sig := { parameters := [.boolean], returnType := none }, accessFlags := 0, code := some k15c2 }
def k15c3 : Code := { maxStack := 2, maxLocals := 1, code := jdk_94_method_16_code, exceptionTable := #[], attributes := #[] }
def k15m3 : Method := { name := "<init>", desc := "()V", sig := { parameters := [], returnType := none }, accessFlags := 1, code := some k15c3 }
def k15c4 : Code := { maxStack := 1, maxLocals := 2, code := jdk_94_method_23_code, exceptionTable := #[], attributes := #[] }
def k15m4 : Method := { name := "removeEldestEntry", desc := "(Ljava/util/Map$Entry;)Z", sig := { parameters := [(.object "java/util/Map$Entry")], returnType := some .boolean }, accessFlags := 4, code := some k15c4 }
/-- java/util/LinkedHashMap -/
def k15 : Class := { plain "java/util/LinkedHashMap" (some 13) with
  accessFlags := 33
  interfaces := #[14]
  cf := some (fileOf pool15 2 #[.nestMembers #[200, 362, 364, 366, 368, 154, 143, 121, 15]] #[{ accessFlags := 2, nameIndex := 34, descriptorIndex := 35, attributes := #[] }, { accessFlags := 0, nameIndex := 237, descriptorIndex := 238, attributes := #[] }, { accessFlags := 0, nameIndex := 261, descriptorIndex := 262, attributes := #[] }, { accessFlags := 1, nameIndex := 30, descriptorIndex := 27, attributes := #[] }, { accessFlags := 4, nameIndex := 55, descriptorIndex := 56, attributes := #[] }] 33 23 #[205] #[{ accessFlags := 26, nameIndex := 207, descriptorIndex := 208, attributes := #[] }, { accessFlags := 128, nameIndex := 9, descriptorIndex := 10, attributes := #[] }, { accessFlags := 128, nameIndex := 13, descriptorIndex := 10, attributes := #[] }, { accessFlags := 16, nameIndex := 66, descriptorIndex := 67, attributes := #[] }, { accessFlags := 24, nameIndex := 214, descriptorIndex := 6, attributes := #[] }, { accessFlags := 24, nameIndex := 216, descriptorIndex := 6, attributes := #[] }, { accessFlags := 24, nameIndex := 218, descriptorIndex := 6, attributes := #[] }, { accessFlags := 128, nameIndex := 5, descriptorIndex := 6, attributes := #[] }])
  fields := #[{ name := "serialVersionUID", type := .long, accessFlags := 26, slot := 0, constantValue := 0 }, { name := "head", type := (.object "java/util/LinkedHashMap$Entry"), accessFlags := 128, slot := 8, constantValue := 0 }, { name := "tail", type := (.object "java/util/LinkedHashMap$Entry"), accessFlags := 128, slot := 9, constantValue := 0 }, { name := "accessOrder", type := .boolean, accessFlags := 16, slot := 10, constantValue := 0 }, { name := "PUT_NORM", type := .int, accessFlags := 24, slot := 1, constantValue := 0 }, { name := "PUT_FIRST", type := .int, accessFlags := 24, slot := 2, constantValue := 0 }, { name := "PUT_LAST", type := .int, accessFlags := 24, slot := 3, constantValue := 0 }, { name := "putMode", type := .int, accessFlags := 128, slot := 11, constantValue := 0 }]
  methods := #[k15m0, k15m1, k15m2, k15m3, k15m4]
  instanceTypes := #[(.object "java/util/Set"), (.object "java/util/Collection"), (.array (.object "java/util/HashMap$Node")), (.object "java/util/Set"), .int, .int, .int, .float, (.object "java/util/LinkedHashMap$Entry"), (.object "java/util/LinkedHashMap$Entry"), .boolean, .int]
  staticTypes := #[.long, .int, .int, .int]
  resolved := Array.replicate 386 none
  statics := none }

def pool16 : Array CpInfo := pool [(8, .class_ 10), (1, u "java/lang/Iterable"), (24, .class_ 36), (0, u "java/lang/Object")] 25

/-- java/lang/Iterable -/
def k16 : Class := { plain "java/lang/Iterable" (some 0) with
  accessFlags := 1537
  interfaces := #[]
  cf := some (fileOf pool16 8 #[] #[] 1537 35 #[] #[])
  fields := #[]
  methods := #[]
  instanceTypes := #[]
  staticTypes := #[]
  resolved := Array.replicate 62 none
  statics := none }

def pool17 : Array CpInfo := pool [(10, .class_ 12), (1, u "java/util/Collection"), (47, .class_ 61), (0, u "java/lang/Object"), (0, .class_ 63), (0, u "java/lang/Iterable")] 51

/-- java/util/Collection -/
def k17 : Class := { plain "java/util/Collection" (some 0) with
  accessFlags := 1537
  interfaces := #[16]
  cf := some (fileOf pool17 10 #[] #[] 1537 60 #[62] #[])
  fields := #[]
  methods := #[]
  instanceTypes := #[]
  staticTypes := #[]
  resolved := Array.replicate 115 none
  statics := none }

def pool18 : Array CpInfo := pool [(8, .class_ 10), (1, u "java/util/SequencedCollection"), (15, .class_ 27), (0, u "java/lang/Object"), (0, .class_ 29), (0, u "java/util/Collection")] 27

/-- java/util/SequencedCollection -/
def k18 : Class := { plain "java/util/SequencedCollection" (some 0) with
  accessFlags := 1537
  interfaces := #[17]
  cf := some (fileOf pool18 8 #[] #[] 1537 26 #[28] #[])
  fields := #[]
  methods := #[]
  instanceTypes := #[]
  staticTypes := #[]
  resolved := Array.replicate 57 none
  statics := none }

def pool19 : Array CpInfo := pool [(8, .class_ 10), (1, u "java/util/List"), (77, u "of"), (1, .fieldref 91 92), (0, .class_ 93), (0, .nameAndType 94 95), (0, u "java/util/ImmutableCollections"), (0, u "EMPTY_LIST"), (0, u "Ljava/util/ImmutableCollections$ListN;"), (7, .class_ 104), (0, u "java/lang/Object"), (14, u "()Ljava/util/List;"), (0, .class_ 121), (0, u "java/util/SequencedCollection")] 129

def k19c0 : Code := { maxStack := 1, maxLocals := 0, code := jdk_40_method_36_code, exceptionTable := #[], attributes := #[] }
def k19m0 : Method := { name := "of", desc := "()Ljava/util/List;", sig := { parameters := [], returnType := some (.object "java/util/List") }, accessFlags := 9, code := some k19c0 }
/-- java/util/List -/
def k19 : Class := { plain "java/util/List" (some 0) with
  accessFlags := 1537
  interfaces := #[18]
  cf := some (fileOf pool19 8 #[] #[{ accessFlags := 9, nameIndex := 88, descriptorIndex := 119, attributes := #[] }] 1537 103 #[120] #[])
  fields := #[]
  methods := #[k19m0]
  instanceTypes := #[]
  staticTypes := #[]
  resolved := Array.replicate 251 none
  statics := none }

def pool20 : Array CpInfo := pool [(2, .class_ 4), (1, u "java/lang/Object"), (0, u "<init>"), (0, u "()V"), (3, .class_ 11), (0, u "java/util/ImmutableCollections$List12"), (0, .class_ 13), (0, u "java/util/ImmutableCollections$ListN"), (3, u "Z"), (29, .class_ 49), (1, u "java/util/ImmutableCollections"), (0, u "$assertionsDisabled"), (5, u "[Ljava/lang/Object;"), (5, u "EMPTY_LIST"), (0, u "Ljava/util/ImmutableCollections$ListN;"), (8, u "EMPTY_LIST_NULLS"), (22, u "SALT32L"), (0, u "J"), (2, u "REVERSE"), (6, u "archivedObjects"), (2, u "EMPTY"), (0, u "Ljava/lang/Object;"), (0, .class_ 112), (0, u "java/util/ImmutableCollections$SetN"), (5, u "EMPTY_SET"), (0, u "Ljava/util/ImmutableCollections$SetN;"), (0, .class_ 121), (0, u "java/util/ImmutableCollections$MapN"), (3, u "EMPTY_MAP"), (0, u "Ljava/util/ImmutableCollections$MapN;"), (4, u "EXPAND_FACTOR"), (0, u "I"), (36, .class_ 170), (0, u "java/util/ImmutableCollections$MapN$MapNIterator"), (0, .class_ 172), (0, u "java/util/ImmutableCollections$MapN$1"), (0, .class_ 174), (0, u "java/util/ImmutableCollections$Map1"), (0, .class_ 176), (0, u "java/util/ImmutableCollections$AbstractImmutableMap"), (0, .class_ 178), (0, u "java/util/ImmutableCollections$SetN$SetNIterator"), (0, .class_ 180), (0, u "java/util/ImmutableCollections$Set12"), (0, .class_ 182), (0, u "java/util/ImmutableCollections$Set12$1"), (0, .class_ 184), (0, u "java/util/ImmutableCollections$AbstractImmutableSet"), (0, .class_ 186), (0, u "java/util/ImmutableCollections$SubList"), (0, .class_ 188), (0, u "java/util/ImmutableCollections$ListItr"), (0, .class_ 190), (0, u "java/util/ImmutableCollections$AbstractImmutableList"), (0, .class_ 192), (0, u "java/util/ImmutableCollections$AbstractImmutableCollection"), (0, .class_ 194), (0, u "java/util/ImmutableCollections$Access"), (0, .class_ 196), (0, u "java/util/ImmutableCollections$Access$1")] 16

def k20m0 : Method := { name := "<init>", desc := "()V", sig := { parameters := [], returnType := none }, accessFlags := 2, code := none }
/-- java/util/ImmutableCollections -/
def k20 : Class := { plain "java/util/ImmutableCollections" (some 0) with
  accessFlags := 32
  interfaces := #[]
  cf := some (fileOf pool20 47 #[.nestMembers #[120, 169, 171, 173, 175, 111, 177, 179, 181, 183, 12, 10, 185, 187, 189, 191, 193, 195]] #[{ accessFlags := 2, nameIndex := 5, descriptorIndex := 6, attributes := #[] }] 32 2 #[] #[{ accessFlags := 26, nameIndex := 95, descriptorIndex := 96, attributes := #[] }, { accessFlags := 26, nameIndex := 99, descriptorIndex := 17, attributes := #[] }, { accessFlags := 10, nameIndex := 106, descriptorIndex := 56, attributes := #[] }, { accessFlags := 26, nameIndex := 109, descriptorIndex := 110, attributes := #[] }, { accessFlags := 24, nameIndex := 62, descriptorIndex := 63, attributes := #[] }, { accessFlags := 24, nameIndex := 72, descriptorIndex := 63, attributes := #[] }, { accessFlags := 24, nameIndex := 118, descriptorIndex := 119, attributes := #[] }, { accessFlags := 24, nameIndex := 125, descriptorIndex := 126, attributes := #[] }, { accessFlags := 24, nameIndex := 131, descriptorIndex := 132, attributes := #[] }, { accessFlags := 4120, nameIndex := 50, descriptorIndex := 17, attributes := #[] }])
  fields := #[{ name := "SALT32L", type := .long, accessFlags := 26, slot := 0, constantValue := 0 }, { name := "REVERSE", type := .boolean, accessFlags := 26, slot := 1, constantValue := 0 }, { name := "archivedObjects", type := (.array (.object "java/lang/Object")), accessFlags := 10, slot := 2, constantValue := 0 }, { name := "EMPTY", type := (.object "java/lang/Object"), accessFlags := 26, slot := 3, constantValue := 0 }, { name := "EMPTY_LIST", type := (.object "java/util/ImmutableCollections$ListN"), accessFlags := 24, slot := 4, constantValue := 0 }, { name := "EMPTY_LIST_NULLS", type := (.object "java/util/ImmutableCollections$ListN"), accessFlags := 24, slot := 5, constantValue := 0 }, { name := "EMPTY_SET", type := (.object "java/util/ImmutableCollections$SetN"), accessFlags := 24, slot := 6, constantValue := 0 }, { name := "EMPTY_MAP", type := (.object "java/util/ImmutableCollections$MapN"), accessFlags := 24, slot := 7, constantValue := 0 }, { name := "EXPAND_FACTOR", type := .int, accessFlags := 24, slot := 8, constantValue := 0 }, { name := "$assertionsDisabled", type := .boolean, accessFlags := 4120, slot := 9, constantValue := 0 }]
  methods := #[k20m0]
  instanceTypes := #[]
  staticTypes := #[.long, .boolean, (.array (.object "java/lang/Object")), (.object "java/lang/Object"), (.object "java/util/ImmutableCollections$ListN"), (.object "java/util/ImmutableCollections$ListN"), (.object "java/util/ImmutableCollections$SetN"), (.object "java/util/ImmutableCollections$MapN"), .int, .boolean]
  resolved := Array.replicate 213 none
  statics := some 1 }

def pool21 : Array CpInfo := pool [(1, .methodref 2 3), (0, .class_ 4), (0, .nameAndType 5 6), (0, u "java/lang/Object"), (0, u "<init>"), (0, u "()V"), (0, .class_ 8), (0, u "java/lang/Record")] 13

def k21c0 : Code := { maxStack := 1, maxLocals := 1, code := jdk_30_method_1_code, exceptionTable := #[], attributes := #[] }
def k21m0 : Method := { name := "<init>", desc := "()V", sig := { parameters := [], returnType := none }, accessFlags := 4, code := some k21c0 }
/-- java/lang/Record -/
def k21 : Class := { plain "java/lang/Record" (some 0) with
  accessFlags := 1057
  interfaces := #[]
  cf := some (fileOf pool21 7 #[] #[{ accessFlags := 4, nameIndex := 5, descriptorIndex := 6, attributes := #[] }] 1057 2 #[] #[])
  fields := #[]
  methods := #[k21m0]
  instanceTypes := #[]
  staticTypes := #[]
  resolved := Array.replicate 22 none
  statics := none }

def pool22 : Array CpInfo := pool [(1, .methodref 2 3), (0, .class_ 4), (0, .nameAndType 5 6), (0, u "java/lang/Record"), (0, u "<init>"), (0, u "()V"), (0, .fieldref 8 9), (0, .class_ 10), (0, .nameAndType 11 12), (0, u "com/example/mandoline/mandoline/Place$Field"), (0, u "key"), (0, u "Ljava/lang/String;"), (0, .fieldref 8 14), (0, .nameAndType 15 12), (0, u "name"), (12, u "(Ljava/lang/String;Ljava/lang/String;)V"), (3, u "()Ljava/lang/String;"), (5, .class_ 39), (0, u "com/example/mandoline/mandoline/Place")] 20

def k22c0 : Code := { maxStack := 2, maxLocals := 3, code := prog_39_method_1_code, exceptionTable := #[], attributes := #[] }
def k22m0 : Method := { name := "<init>", desc := "(Ljava/lang/String;Ljava/lang/String;)V", sig := { parameters := [(.object "java/lang/String"), (.object "java/lang/String")], returnType := none }, accessFlags := 0, code := some k22c0 }
def k22c1 : Code := { maxStack := 1, maxLocals := 1, code := prog_39_method_5_code, exceptionTable := #[], attributes := #[] }
def k22m1 : Method := { name := "key", desc := "()Ljava/lang/String;", sig := { parameters := [], returnType := some (.object "java/lang/String") }, accessFlags := 1, code := some k22c1 }
def k22c2 : Code := { maxStack := 1, maxLocals := 1, code := prog_39_method_6_code, exceptionTable := #[], attributes := #[] }
def k22m2 : Method := { name := "name", desc := "()Ljava/lang/String;", sig := { parameters := [], returnType := some (.object "java/lang/String") }, accessFlags := 1, code := some k22c2 }
/-- com/example/mandoline/mandoline/Place$Field -/
def k22 : Class := { plain "com/example/mandoline/mandoline/Place$Field" (some 21) with
  accessFlags := 48
  interfaces := #[]
  cf := some (fileOf pool22 8 #[.nestHost 38] #[{ accessFlags := 0, nameIndex := 5, descriptorIndex := 28, attributes := #[] }, { accessFlags := 1, nameIndex := 11, descriptorIndex := 32, attributes := #[] }, { accessFlags := 1, nameIndex := 15, descriptorIndex := 32, attributes := #[] }] 48 2 #[] #[{ accessFlags := 18, nameIndex := 11, descriptorIndex := 12, attributes := #[] }, { accessFlags := 18, nameIndex := 15, descriptorIndex := 12, attributes := #[] }])
  fields := #[{ name := "key", type := (.object "java/lang/String"), accessFlags := 18, slot := 0, constantValue := 0 }, { name := "name", type := (.object "java/lang/String"), accessFlags := 18, slot := 1, constantValue := 0 }]
  methods := #[k22m0, k22m1, k22m2]
  instanceTypes := #[(.object "java/lang/String"), (.object "java/lang/String")]
  staticTypes := #[]
  resolved := Array.replicate 60 none
  statics := none }

def pool23 : Array CpInfo := pool [(6, u "(Ljava/lang/Object;)Ljava/lang/Object;"), (2, u "apply"), (6, .class_ 18), (1, u "java/util/function/Function"), (0, .class_ 20), (0, u "java/lang/Object")] 56

def k23m0 : Method := { name := "apply", desc := "(Ljava/lang/Object;)Ljava/lang/Object;", sig := { parameters := [(.object "java/lang/Object")], returnType := some (.object "java/lang/Object") }, accessFlags := 1025, code := none }
/-- java/util/function/Function -/
def k23 : Class := { plain "java/util/function/Function" (some 0) with
  accessFlags := 1537
  interfaces := #[]
  cf := some (fileOf pool23 16 #[] #[{ accessFlags := 1025, nameIndex := 9, descriptorIndex := 6, attributes := #[] }] 1537 19 #[] #[])
  fields := #[]
  methods := #[k23m0]
  instanceTypes := #[]
  staticTypes := #[]
  resolved := Array.replicate 77 none
  statics := none }

def pool24 : Array CpInfo := pool [(23, .class_ 25), (1, u "java/util/Map$Entry"), (6, .class_ 34), (1, u "java/util/Map"), (34, .class_ 70), (0, u "java/lang/Object")] 107

/-- java/util/Map$Entry -/
def k24 : Class := { plain "java/util/Map$Entry" (some 0) with
  accessFlags := 1537
  interfaces := #[]
  cf := some (fileOf pool24 23 #[.nestHost 32] #[] 1537 69 #[] #[])
  fields := #[]
  methods := #[]
  instanceTypes := #[]
  staticTypes := #[]
  resolved := Array.replicate 178 none
  statics := none }

def pool25 : Array CpInfo := pool [(1, .methodref 2 3), (0, .class_ 4), (0, .nameAndType 5 6), (0, u "java/lang/Object"), (0, u "<init>"), (0, u "()V"), (0, .fieldref 8 9), (0, .class_ 10), (0, .nameAndType 11 12), (0, u "java/util/HashMap$Node"), (0, u "hash"), (0, u "I"), (0, .fieldref 8 14), (0, .nameAndType 15 16), (0, u "key"), (0, u "Ljava/lang/Object;"), (0, .fieldref 8 18), (0, .nameAndType 19 16), (0, u "value"), (0, .fieldref 8 21), (0, .nameAndType 22 23), (0, u "next"), (0, u "Ljava/util/HashMap$Node;"), (22, .class_ 47), (0, u "java/util/Map$Entry"), (15, u "(ILjava/lang/Object;Ljava/lang/Object;Ljava/util/HashMap$Node;)V"), (24, .class_ 89), (0, u "java/util/HashMap")] 5

def k25c0 : Code := { maxStack := 2, maxLocals := 5, code := jdk_70_method_1_code, exceptionTable := #[], attributes := #[] }
def k25m0 : Method := { name := "<init>", desc := "(ILjava/lang/Object;Ljava/lang/Object;Ljava/util/HashMap$Node;)V", sig := { parameters := [.int, (.object "java/lang/Object"), (.object "java/lang/Object"), (.object "java/util/HashMap$Node")], returnType := none }, accessFlags := 0, code := some k25c0 }
/-- java/util/HashMap$Node -/
def k25 : Class := { plain "java/util/HashMap$Node" (some 0) with
  accessFlags := 32
  interfaces := #[24]
  cf := some (fileOf pool25 8 #[.nestHost 88] #[{ accessFlags := 0, nameIndex := 5, descriptorIndex := 63, attributes := #[] }] 32 2 #[46] #[{ accessFlags := 16, nameIndex := 11, descriptorIndex := 12, attributes := #[] }, { accessFlags := 16, nameIndex := 15, descriptorIndex := 16, attributes := #[] }, { accessFlags := 0, nameIndex := 19, descriptorIndex := 16, attributes := #[] }, { accessFlags := 0, nameIndex := 22, descriptorIndex := 23, attributes := #[] }])
  fields := #[{ name := "hash", type := .int, accessFlags := 16, slot := 0, constantValue := 0 }, { name := "key", type := (.object "java/lang/Object"), accessFlags := 16, slot := 1, constantValue := 0 }, { name := "value", type := (.object "java/lang/Object"), accessFlags := 0, slot := 2, constantValue := 0 }, { name := "next", type := (.object "java/util/HashMap$Node"), accessFlags := 0, slot := 3, constantValue := 0 }]
  methods := #[k25m0]
  instanceTypes := #[.int, (.object "java/lang/Object"), (.object "java/lang/Object"), (.object "java/util/HashMap$Node")]
  staticTypes := #[]
  resolved := Array.replicate 95 none
  statics := none }

def pool26 : Array CpInfo := pool [(1, .class_ 2), (0, u "java/lang/Appendable"), (0, .class_ 4), (0, u "java/lang/Object")] 9

/-- java/lang/Appendable -/
def k26 : Class := { plain "java/lang/Appendable" (some 0) with
  accessFlags := 1537
  interfaces := #[]
  cf := some (fileOf pool26 1 #[] #[] 1537 3 #[] #[])
  fields := #[]
  methods := #[]
  instanceTypes := #[]
  staticTypes := #[]
  resolved := Array.replicate 14 none
  statics := none }

def pool27 : Array CpInfo := pool [(1, .class_ 2), (0, u "java/lang/String"), (0, .methodref 4 5), (0, .class_ 6), (0, .nameAndType 7 8), (0, u "java/lang/Object"), (0, u "<init>"), (0, u "()V"), (1, .class_ 12), (1, u "java/lang/AbstractStringBuilder"), (0, u "EMPTYVALUE"), (0, u "[B"), (0, .fieldref 10 16), (0, .nameAndType 17 14), (0, u "value"), (0, .fieldref 1 19), (0, .nameAndType 20 21), (0, u "COMPACT_STRINGS"), (0, u "Z"), (0, .fieldref 10 23), (0, .nameAndType 24 25), (0, u "coder"), (0, u "B"), (6, .methodref 1 33), (0, .nameAndType 34 35), (0, u "length"), (0, u "()I"), (4, .methodref 1 41), (0, .nameAndType 24 42), (0, u "()B"), (2, u "append"), (0, u "(Ljava/lang/String;)Ljava/lang/AbstractStringBuilder;"), (1, .class_ 49), (0, u "java/lang/CharSequence"), (19, u "(Ljava/lang/String;)V"), (5, u "maybeLatin1"), (3, .fieldref 10 80), (0, .nameAndType 81 82), (0, u "count"), (0, u "I"), (2, u "isLatin1"), (0, u "()Z"), (13, .methodref 10 101), (0, .nameAndType 102 103), (0, u "ensureCapacityInternal"), (0, u "(I)V"), (104, .methodref 10 209), (0, .nameAndType 210 211), (0, u "putStringAt"), (0, u "(ILjava/lang/String;)V"), (5, u "inflateIfNeededFor"), (2, .nameAndType 221 222), (0, u "getBytes"), (0, u "([BIB)V"), (174, .methodref 10 398), (0, .nameAndType 217 69), (0, .methodref 1 220), (3, u "()[B"), (40, .class_ 445), (0, u "java/lang/Appendable"), (106, u "getValue")] 56

def k27m0 : Method := { name := "<init>", desc := "()V", sig := { parameters := [], returnType := none }, accessFlags := 0, code := none }
def k27c1 : Code := { maxStack := 2, maxLocals := 2, code := jdk_68_method_2_code, exceptionTable := #[], attributes := #[] }
def k27m1 : Method := { name := "<init>", desc := "(I)V", sig := { parameters := [.int], returnType := none }, accessFlags := 0, code := some k27c1 }
def k27c2 : Code := { maxStack := 1, maxLocals := 1, code := jdk_68_method_6_code, exceptionTable := #[], attributes := #[] }
def k27m2 : Method := { name := "length", desc := "()I", sig := { parameters := [], returnType := some .int }, accessFlags := 1, code := some k27c2 }
def k27c3 : Code := { maxStack := 4, maxLocals := 3, code := jdk_68_method_9_code, exceptionTable := #[], attributes := #[] }
def k27m3 : Method := { name := "ensureCapacityInternal", desc := "(I)V", sig := { parameters := [.int], returnType := none }, accessFlags := 2, code := some k27c3 }
def k27c4 : Code := { maxStack := 3, maxLocals := 3, code := jdk_68_method_22_code, exceptionTable := #[], attributes := #[] }
def k27m4 : Method := { name := "append", desc := "(Ljava/lang/String;)Ljava/lang/AbstractStringBuilder;", sig := { parameters := [(.object "java/lang/String")], returnType := some (.object "java/lang/AbstractStringBuilder") }, accessFlags := 1, code := some k27c4 }
def k27c5 : Code := { maxStack := 1, maxLocals := 1, code := jdk_68_method_64_code, exceptionTable := #[], attributes := #[] }
def k27m5 : Method := { name := "getValue", desc := "()[B", sig := { parameters := [], returnType := some (.array .byte) }, accessFlags := 16, code := some k27c5 }
def k27c6 : Code := { maxStack := 1, maxLocals := 1, code := jdk_68_method_68_code, exceptionTable := #[], attributes := #[] }
def k27m6 : Method := { name := "isLatin1", desc := "()Z", sig := { parameters := [], returnType := some .boolean }, accessFlags := 16, code := some k27c6 }
def k27c7 : Code := { maxStack := 2, maxLocals := 2, code := jdk_68_method_71_code, exceptionTable := #[], attributes := #[] }
def k27m7 : Method := { name := "inflateIfNeededFor", desc := "(Ljava/lang/String;)V", sig := { parameters := [(.object "java/lang/String")], returnType := none }, accessFlags := 2, code := some k27c7 }
def k27c8 : Code := { maxStack := 4, maxLocals := 3, code := jdk_68_method_73_code, exceptionTable := #[], attributes := #[] }
def k27m8 : Method := { name := "putStringAt", desc := "(ILjava/lang/String;)V", sig := { parameters := [.int, (.object "java/lang/String")], returnType := none }, accessFlags := 2, code := some k27c8 }
/-- java/lang/AbstractStringBuilder -/
def k27 : Class := { plain "java/lang/AbstractStringBuilder" (some 0) with
  accessFlags := 1056
  interfaces := #[26, 5]
  cf := some (fileOf pool27 10 #[] #[{ accessFlags := 0, nameIndex := 7, descriptorIndex := 8, attributes := #[] }, { accessFlags := 0, nameIndex := 7, descriptorIndex := 103, attributes := #[] }, { accessFlags := 1, nameIndex := 34, descriptorIndex := 35, attributes := #[] }, { accessFlags := 2, nameIndex := 102, descriptorIndex := 103, attributes := #[] }, { accessFlags := 1, nameIndex := 45, descriptorIndex := 46, attributes := #[] }, { accessFlags := 16, nameIndex := 552, descriptorIndex := 403, attributes := #[] }, { accessFlags := 16, nameIndex := 85, descriptorIndex := 86, attributes := #[] }, { accessFlags := 2, nameIndex := 217, descriptorIndex := 69, attributes := #[] }, { accessFlags := 2, nameIndex := 210, descriptorIndex := 211, attributes := #[] }] 1056 4 #[444, 48] #[{ accessFlags := 0, nameIndex := 17, descriptorIndex := 14, attributes := #[] }, { accessFlags := 0, nameIndex := 24, descriptorIndex := 25, attributes := #[] }, { accessFlags := 0, nameIndex := 75, descriptorIndex := 21, attributes := #[] }, { accessFlags := 0, nameIndex := 81, descriptorIndex := 82, attributes := #[] }, { accessFlags := 26, nameIndex := 13, descriptorIndex := 14, attributes := #[] }])
  fields := #[{ name := "value", type := (.array .byte), accessFlags := 0, slot := 0, constantValue := 0 }, { name := "coder", type := .byte, accessFlags := 0, slot := 1, constantValue := 0 }, { name := "maybeLatin1", type := .boolean, accessFlags := 0, slot := 2, constantValue := 0 }, { name := "count", type := .int, accessFlags := 0, slot := 3, constantValue := 0 }, { name := "EMPTYVALUE", type := (.array .byte), accessFlags := 26, slot := 0, constantValue := 0 }]
  methods := #[k27m0, k27m1, k27m2, k27m3, k27m4, k27m5, k27m6, k27m7, k27m8]
  instanceTypes := #[(.array .byte), .byte, .boolean, .int]
  staticTypes := #[(.array .byte)]
  resolved := Array.replicate 609 none
  statics := none }

def pool28 : Array CpInfo := pool [(1, .methodref 2 3), (0, .class_ 4), (0, .nameAndType 5 6), (0, u "java/lang/AbstractStringBuilder"), (0, u "<init>"), (0, u "(I)V"), (11, .class_ 20), (1, u "java/lang/String"), (3, .class_ 26), (1, u "java/lang/StringBuilder"), (0, u "append"), (0, u "(Ljava/lang/String;)Ljava/lang/StringBuilder;"), (0, .methodref 2 30), (0, .nameAndType 27 31), (0, u "(Ljava/lang/String;)Ljava/lang/AbstractStringBuilder;"), (105, .methodref 18 138), (0, .nameAndType 5 139), (0, u "(Ljava/lang/StringBuilder;)V"), (5, u "()V"), (10, u "()I"), (186, .methodref 2 344), (0, .nameAndType 345 156), (0, u "length"), (3, .class_ 350), (0, u "java/lang/Appendable"), (0, .class_ 352), (0, u "java/io/Serializable"), (0, .class_ 354), (0, u "java/lang/Comparable"), (0, .class_ 356), (0, u "java/lang/CharSequence"), (0, u "serialVersionUID"), (0, u "J"), (40, u "toString"), (0, u "()Ljava/lang/String;")] 21

def k28c0 : Code := { maxStack := 2, maxLocals := 1, code := jdk_67_method_1_code, exceptionTable := #[], attributes := #[] }
def k28m0 : Method := { name := "<init>", desc := "()V", sig := { parameters := [], returnType := none }, accessFlags := 1, code := some k28c0 }
def k28c1 : Code := { maxStack := 2, maxLocals := 2, code := jdk_67_method_7_code, exceptionTable := #[], attributes := #[] }
def k28m1 : Method := { name := "append", desc := "(Ljava/lang/String;)Ljava/lang/StringBuilder;", sig := { parameters := [(.object "java/lang/String")], returnType := some (.object "java/lang/StringBuilder") }, accessFlags := 1, code := some k28c1 }
def k28c2 : Code := { maxStack := 3, maxLocals := 1, code := jdk_67_method_42_code, exceptionTable := #[], attributes := #[] }
def k28m2 : Method := { name := "toString", desc := "()Ljava/lang/String;", sig := { parameters := [], returnType := some (.object "java/lang/String") }, accessFlags := 1, code := some k28c2 }
def k28c3 : Code := { maxStack := 1, maxLocals := 1, code := jdk_67_method_93_code, exceptionTable := #[], attributes := #[] }
def k28m3 : Method := { name := "length", desc := "()I", sig := { parameters := [], returnType := some .int }, accessFlags := 4161, code := some k28c3 }
/-- java/lang/StringBuilder -/
def k28 : Class := { plain "java/lang/StringBuilder" (some 27) with
  accessFlags := 49
  interfaces := #[26, 3, 4, 5]
  cf := some (fileOf pool28 24 #[] #[{ accessFlags := 1, nameIndex := 5, descriptorIndex := 145, attributes := #[] }, { accessFlags := 1, nameIndex := 27, descriptorIndex := 28, attributes := #[] }, { accessFlags := 1, nameIndex := 399, descriptorIndex := 400, attributes := #[] }, { accessFlags := 4161, nameIndex := 345, descriptorIndex := 156, attributes := #[] }] 49 2 #[349, 351, 353, 355] #[{ accessFlags := 24, nameIndex := 357, descriptorIndex := 358, attributes := #[] }])
  fields := #[{ name := "serialVersionUID", type := .long, accessFlags := 24, slot := 0, constantValue := 0 }]
  methods := #[k28m0, k28m1, k28m2, k28m3]
  instanceTypes := #[(.array .byte), .byte, .boolean, .int]
  staticTypes := #[.long]
  resolved := Array.replicate 422 none
  statics := none }

def pool29 : Array CpInfo := pool [(2, .class_ 4), (1, u "java/lang/Object"), (0, u "<init>"), (0, u "()V"), (1, .class_ 10), (1, u "java/lang/System"), (0, u "allowSecurityManager"), (0, u "I"), (16, u "cons"), (0, u "Ljava/io/Console;"), (77, .class_ 110), (1, u "java/lang/System$CallersHolder"), (43, u "initialErrStream"), (0, u "Ljava/io/PrintStream;"), (19, u "security"), (0, u "Ljava/lang/SecurityManager;"), (31, .class_ 209), (0, u "java/lang/System$1"), (7, u "props"), (0, u "Ljava/util/Properties;"), (2, u "lineSeparator"), (0, u "Ljava/lang/String;"), (96, .class_ 321), (1, u "java/lang/System$LoggerFinder"), (5, .class_ 328), (0, u "java/lang/System$Logger"), (67, u "err"), (2, u "out"), (91, u "notSupportedJnuEncoding"), (15, u "in"), (17, u "initialIn"), (0, u "Ljava/io/InputStream;"), (35, u "bootLayer"), (0, u "Ljava/lang/ModuleLayer;"), (99, .class_ 664), (0, u "java/lang/System$2"), (9, u "NEVER"), (2, u "MAYBE"), (49, u "arraycopy"), (0, u "(Ljava/lang/Object;ILjava/lang/Object;II)V"), (72, .class_ 802), (0, u "java/lang/System$Logger$Level")] 31

def k29m0 : Method := { name := "<init>", desc := "()V", sig := { parameters := [], returnType := none }, accessFlags := 2, code := none }
def k29m1 : Method := { name := "arraycopy", desc := "(Ljava/lang/Object;ILjava/lang/Object;II)V", sig := { parameters := [(.object "java/lang/Object"), .int, (.object "java/lang/Object"), .int, .int], returnType := none }, accessFlags := 265, code := none }
/-- java/lang/System -/
def k29 : Class := { plain "java/lang/System" (some 0) with
  accessFlags := 49
  interfaces := #[]
  cf := some (fileOf pool29 8 #[.nestMembers #[319, 327, 801, 108, 663, 208]] #[{ accessFlags := 2, nameIndex := 5, descriptorIndex := 6, attributes := #[] }, { accessFlags := 265, nameIndex := 727, descriptorIndex := 728, attributes := #[] }] 49 2 #[] #[{ accessFlags := 25, nameIndex := 507, descriptorIndex := 526, attributes := #[] }, { accessFlags := 25, nameIndex := 399, descriptorIndex := 155, attributes := #[] }, { accessFlags := 25, nameIndex := 396, descriptorIndex := 155, attributes := #[] }, { accessFlags := 10, nameIndex := 525, descriptorIndex := 526, attributes := #[] }, { accessFlags := 26, nameIndex := 674, descriptorIndex := 12, attributes := #[] }, { accessFlags := 26, nameIndex := 677, descriptorIndex := 12, attributes := #[] }, { accessFlags := 10, nameIndex := 11, descriptorIndex := 12, attributes := #[] }, { accessFlags := 74, nameIndex := 175, descriptorIndex := 176, attributes := #[] }, { accessFlags := 10, nameIndex := 491, descriptorIndex := 222, attributes := #[] }, { accessFlags := 74, nameIndex := 29, descriptorIndex := 30, attributes := #[] }, { accessFlags := 74, nameIndex := 154, descriptorIndex := 155, attributes := #[] }, { accessFlags := 10, nameIndex := 217, descriptorIndex := 218, attributes := #[] }, { accessFlags := 10, nameIndex := 221, descriptorIndex := 222, attributes := #[] }, { accessFlags := 8, nameIndex := 562, descriptorIndex := 563, attributes := #[] }])
  fields := #[{ name := "in", type := (.object "java/io/InputStream"), accessFlags := 25, slot := 0, constantValue := 0 }, { name := "out", type := (.object "java/io/PrintStream"), accessFlags := 25, slot := 1, constantValue := 0 }, { name := "err", type := (.object "java/io/PrintStream"), accessFlags := 25, slot := 2, constantValue := 0 }, { name := "initialIn", type := (.object "java/io/InputStream"), accessFlags := 10, slot := 3, constantValue := 0 }, { name := "NEVER", type := .int, accessFlags := 26, slot := 4, constantValue := 0 }, { name := "MAYBE", type := .int, accessFlags := 26, slot := 5, constantValue := 0 }, { name := "allowSecurityManager", type := .int, accessFlags := 10, slot := 6, constantValue := 0 }, { name := "security", type := (.object "java/lang/SecurityManager"), accessFlags := 74, slot := 7, constantValue := 0 }, { name := "notSupportedJnuEncoding", type := (.object "java/lang/String"), accessFlags := 10, slot := 8, constantValue := 0 }, { name := "cons", type := (.object "java/io/Console"), accessFlags := 74, slot := 9, constantValue := 0 }, { name := "initialErrStream", type := (.object "java/io/PrintStream"), accessFlags := 74, slot := 10, constantValue := 0 }, { name := "props", type := (.object "java/util/Properties"), accessFlags := 10, slot := 11, constantValue := 0 }, { name := "lineSeparator", type := (.object "java/lang/String"), accessFlags := 10, slot := 12, constantValue := 0 }, { name := "bootLayer", type := (.object "java/lang/ModuleLayer"), accessFlags := 8, slot := 13, constantValue := 0 }]
  methods := #[k29m0, k29m1]
  instanceTypes := #[]
  staticTypes := #[(.object "java/io/InputStream"), (.object "java/io/PrintStream"), (.object "java/io/PrintStream"), (.object "java/io/InputStream"), .int, .int, .int, (.object "java/lang/SecurityManager"), (.object "java/lang/String"), (.object "java/io/Console"), (.object "java/io/PrintStream"), (.object "java/util/Properties"), (.object "java/lang/String"), (.object "java/lang/ModuleLayer")]
  resolved := Array.replicate 834 none
  statics := none }

def pool30 : Array CpInfo := pool [(2, .class_ 4), (1, u "java/lang/Object"), (0, u "<init>"), (0, u "()V"), (7, .class_ 16), (1, u "java/util/Arrays"), (57, .class_ 76), (1, u "java/util/Arrays$NaturalOrder"), (36, .class_ 115), (1, u "java/util/Arrays$LegacyMergeSort"), (1, u "Z"), (21, u "copyOfRange"), (10, .methodref 151 152), (0, .class_ 153), (0, .nameAndType 154 155), (0, u "java/lang/System"), (0, u "arraycopy"), (0, u "(Ljava/lang/Object;ILjava/lang/Object;II)V"), (148, .methodref 305 306), (0, .class_ 307), (0, .nameAndType 308 309), (0, u "java/lang/Math"), (0, u "min"), (0, u "(II)I"), (29, .methodref 14 340), (0, .nameAndType 341 342), (0, u "copyOfRangeByte"), (0, u "([BII)[B"), (0, .methodref 14 344), (0, .nameAndType 345 346), (0, u "checkLength"), (0, u "(II)V"), (28, .class_ 376), (0, u "java/util/Arrays$ArrayList"), (68, u "$assertionsDisabled"), (269, u "MIN_ARRAY_SORT_GRAN"), (0, u "I"), (2, u "INSERTIONSORT_THRESHOLD"), (255, .class_ 976), (0, u "java/util/Arrays$ArrayItr")] 52

def k30m0 : Method := { name := "<init>", desc := "()V", sig := { parameters := [], returnType := none }, accessFlags := 2, code := none }
def k30c1 : Code := { maxStack := 4, maxLocals := 2, code := jdk_65_method_131_code, exceptionTable := #[], attributes := #[] }
def k30m1 : Method := { name := "checkLength", desc := "(II)V", sig := { parameters := [.int, .int], returnType := none }, accessFlags := 10, code := some k30c1 }
def k30c2 : Code := { maxStack := 3, maxLocals := 3, code := jdk_65_method_132_code, exceptionTable := #[], attributes := #[] }
def k30m2 : Method := { name := "copyOfRange", desc := "([BII)[B", sig := { parameters := [(.array .byte), .int, .int], returnType := some (.array .byte) }, accessFlags := 9, code := some k30c2 }
def k30c3 : Code := { maxStack := 6, maxLocals := 5, code := jdk_65_method_133_code, exceptionTable := #[], attributes := #[] }
def k30m3 : Method := { name := "copyOfRangeByte", desc := "([BII)[B", sig := { parameters := [(.array .byte), .int, .int], returnType := some (.array .byte) }, accessFlags := 10, code := some k30c3 }
/-- java/util/Arrays -/
def k30 : Class := { plain "java/util/Arrays" (some 0) with
  accessFlags := 49
  interfaces := #[]
  cf := some (fileOf pool30 14 #[.nestMembers #[975, 375, 113, 74]] #[{ accessFlags := 2, nameIndex := 5, descriptorIndex := 6, attributes := #[] }, { accessFlags := 10, nameIndex := 345, descriptorIndex := 346, attributes := #[] }, { accessFlags := 9, nameIndex := 139, descriptorIndex := 342, attributes := #[] }, { accessFlags := 10, nameIndex := 341, descriptorIndex := 342, attributes := #[] }] 49 2 #[] #[{ accessFlags := 26, nameIndex := 715, descriptorIndex := 716, attributes := #[] }, { accessFlags := 26, nameIndex := 719, descriptorIndex := 716, attributes := #[] }, { accessFlags := 4120, nameIndex := 445, descriptorIndex := 117, attributes := #[] }])
  fields := #[{ name := "MIN_ARRAY_SORT_GRAN", type := .int, accessFlags := 26, slot := 0, constantValue := 0 }, { name := "INSERTIONSORT_THRESHOLD", type := .int, accessFlags := 26, slot := 1, constantValue := 0 }, { name := "$assertionsDisabled", type := .boolean, accessFlags := 4120, slot := 2, constantValue := 0 }]
  methods := #[k30m0, k30m1, k30m2, k30m3]
  instanceTypes := #[]
  staticTypes := #[.int, .int, .boolean]
  resolved := Array.replicate 1029 none
  statics := none }

def pool31 : Array CpInfo := pool [(1, .class_ 2), (0, u "java/lang/Math"), (1, .class_ 6), (1, u "java/lang/Object"), (0, u "<init>"), (0, u "()V"), (89, .class_ 100), (1, u "java/lang/Math$RandomNumberGeneratorHolder"), (71, u "negativeZeroFloatBits"), (0, u "J"), (2, u "negativeZeroDoubleBits"), (24, u "min"), (43, u "$assertionsDisabled"), (0, u "Z"), (88, u "(II)I"), (2, u "twoToTheDoubleScaleDown"), (0, u "D"), (4, u "twoToTheDoubleScaleUp"), (9, u "E"), (3, u "PI"), (2, u "TAU"), (2, u "DEGREES_TO_RADIANS"), (0, u "RADIANS_TO_DEGREES")] 94

def k31m0 : Method := { name := "<init>", desc := "()V", sig := { parameters := [], returnType := none }, accessFlags := 2, code := none }
def k31c1 : Code := { maxStack := 2, maxLocals := 2, code := jdk_29_method_69_code, exceptionTable := #[], attributes := #[] }
def k31m1 : Method := { name := "min", desc := "(II)I", sig := { parameters := [.int, .int], returnType := some .int }, accessFlags := 9, code := some k31c1 }
/-- java/lang/Math -/
def k31 : Class := { plain "java/lang/Math" (some 0) with
  accessFlags := 49
  interfaces := #[]
  cf := some (fileOf pool31 1 #[.nestMembers #[98]] #[{ accessFlags := 2, nameIndex := 7, descriptorIndex := 8, attributes := #[] }, { accessFlags := 9, nameIndex := 201, descriptorIndex := 335, attributes := #[] }] 49 4 #[] #[{ accessFlags := 25, nameIndex := 354, descriptorIndex := 339, attributes := #[] }, { accessFlags := 25, nameIndex := 358, descriptorIndex := 339, attributes := #[] }, { accessFlags := 25, nameIndex := 361, descriptorIndex := 339, attributes := #[] }, { accessFlags := 26, nameIndex := 364, descriptorIndex := 339, attributes := #[] }, { accessFlags := 26, nameIndex := 365, descriptorIndex := 339, attributes := #[] }, { accessFlags := 26, nameIndex := 172, descriptorIndex := 173, attributes := #[] }, { accessFlags := 26, nameIndex := 176, descriptorIndex := 173, attributes := #[] }, { accessFlags := 8, nameIndex := 344, descriptorIndex := 339, attributes := #[] }, { accessFlags := 8, nameIndex := 338, descriptorIndex := 339, attributes := #[] }, { accessFlags := 4120, nameIndex := 245, descriptorIndex := 246, attributes := #[] }])
  fields := #[{ name := "E", type := .double, accessFlags := 25, slot := 0, constantValue := 0 }, { name := "PI", type := .double, accessFlags := 25, slot := 1, constantValue := 0 }, { name := "TAU", type := .double, accessFlags := 25, slot := 2, constantValue := 0 }, { name := "DEGREES_TO_RADIANS", type := .double, accessFlags := 26, slot := 3, constantValue := 0 }, { name := "RADIANS_TO_DEGREES", type := .double, accessFlags := 26, slot := 4, constantValue := 0 }, { name := "negativeZeroFloatBits", type := .long, accessFlags := 26, slot := 5, constantValue := 0 }, { name := "negativeZeroDoubleBits", type := .long, accessFlags := 26, slot := 6, constantValue := 0 }, { name := "twoToTheDoubleScaleUp", type := .double, accessFlags := 8, slot := 7, constantValue := 0 }, { name := "twoToTheDoubleScaleDown", type := .double, accessFlags := 8, slot := 8, constantValue := 0 }, { name := "$assertionsDisabled", type := .boolean, accessFlags := 4120, slot := 9, constantValue := 0 }]
  methods := #[k31m0, k31m1]
  instanceTypes := #[]
  staticTypes := #[.double, .double, .double, .double, .double, .long, .long, .double, .double, .boolean]
  resolved := Array.replicate 460 none
  statics := none }

def pool32 : Array CpInfo := pool [(1, .methodref 2 3), (0, .class_ 4), (0, .nameAndType 5 6), (0, u "java/util/HashMap$Node"), (0, u "<init>"), (0, u "(ILjava/lang/Object;Ljava/lang/Object;Ljava/util/HashMap$Node;)V"), (0, .class_ 8), (0, u "java/util/LinkedHashMap$Entry"), (0, u "before"), (0, u "Ljava/util/LinkedHashMap$Entry;"), (2, u "after"), (20, .class_ 35), (0, u "java/util/LinkedHashMap")] 5

def k32c0 : Code := { maxStack := 5, maxLocals := 5, code := jdk_83_method_1_code, exceptionTable := #[], attributes := #[] }
def k32m0 : Method := { name := "<init>", desc := "(ILjava/lang/Object;Ljava/lang/Object;Ljava/util/HashMap$Node;)V", sig := { parameters := [.int, (.object "java/lang/Object"), (.object "java/lang/Object"), (.object "java/util/HashMap$Node")], returnType := none }, accessFlags := 0, code := some k32c0 }
/-- java/util/LinkedHashMap$Entry -/
def k32 : Class := { plain "java/util/LinkedHashMap$Entry" (some 25) with
  accessFlags := 32
  interfaces := #[]
  cf := some (fileOf pool32 7 #[.nestHost 34] #[{ accessFlags := 0, nameIndex := 5, descriptorIndex := 6, attributes := #[] }] 32 2 #[] #[{ accessFlags := 0, nameIndex := 9, descriptorIndex := 10, attributes := #[] }, { accessFlags := 0, nameIndex := 13, descriptorIndex := 10, attributes := #[] }])
  fields := #[{ name := "before", type := (.object "java/util/LinkedHashMap$Entry"), accessFlags := 0, slot := 4, constantValue := 0 }, { name := "after", type := (.object "java/util/LinkedHashMap$Entry"), accessFlags := 0, slot := 5, constantValue := 0 }]
  methods := #[k32m0]
  instanceTypes := #[.int, (.object "java/lang/Object"), (.object "java/lang/Object"), (.object "java/util/HashMap$Node"), (.object "java/util/LinkedHashMap$Entry"), (.object "java/util/LinkedHashMap$Entry")]
  staticTypes := #[]
  resolved := Array.replicate 41 none
  statics := none }

def pool33 : Array CpInfo := pool [(1, .methodref 2 3), (0, .class_ 4), (0, .nameAndType 5 6), (0, u "java/lang/Object"), (0, u "<init>"), (0, u "()V"), (0, .fieldref 8 9), (0, .class_ 10), (0, .nameAndType 11 12), (0, u "com/example/mandoline/mandoline/ClangNode"), (0, u "kind"), (0, u "Ljava/lang/String;"), (0, .fieldref 8 14), (0, .nameAndType 15 16), (0, u "attributes"), (0, u "[Ljava/lang/String;"), (0, .fieldref 8 18), (0, .nameAndType 19 20), (0, u "location"), (0, u "Lcom/example/mandoline/mandoline/ClangLocation;"), (0, .fieldref 8 22), (0, .nameAndType 23 20), (0, u "begin"), (0, .fieldref 8 25), (0, .nameAndType 26 20), (0, u "end"), (0, .methodref 28 29), (0, .class_ 30), (0, .nameAndType 31 32), (0, u "java/util/Collections"), (0, u "unmodifiableList"), (0, u "(Ljava/util/List;)Ljava/util/List;"), (0, .fieldref 8 34), (0, .nameAndType 35 36), (0, u "children"), (0, u "Ljava/util/List;"), (85, u "(Ljava/lang/String;[Ljava/lang/String;Lcom/example/mandoline/mandoline/ClangLocation;Lcom/example/mandoline/mandoline/ClangLocation;Lcom/example/mandoline/mandoline/ClangLocation;Ljava/util/List;)V")] 20

def k33c0 : Code := { maxStack := 2, maxLocals := 7, code := prog_9_method_1_code, exceptionTable := #[], attributes := #[] }
def k33m0 : Method := { name := "<init>", desc := "(Ljava/lang/String;[Ljava/lang/String;Lcom/example/mandoline/mandoline/ClangLocation;Lcom/example/mandoline/mandoline/ClangLocation;Lcom/example/mandoline/mandoline/ClangLocation;Ljava/util/List;)V", sig := { parameters := [(.object "java/lang/String"), (.array (.object "java/lang/String")), (.object "com/example/mandoline/mandoline/ClangLocation"), (.object "com/example/mandoline/mandoline/ClangLocation"), (.object "com/example/mandoline/mandoline/ClangLocation"), (.object "java/util/List")], returnType := none }, accessFlags := 0, code := some k33c0 }
/-- com/example/mandoline/mandoline/ClangNode -/
def k33 : Class := { plain "com/example/mandoline/mandoline/ClangNode" (some 0) with
  accessFlags := 48
  interfaces := #[]
  cf := some (fileOf pool33 8 #[] #[{ accessFlags := 0, nameIndex := 5, descriptorIndex := 122, attributes := #[] }] 48 2 #[] #[{ accessFlags := 18, nameIndex := 11, descriptorIndex := 12, attributes := #[] }, { accessFlags := 18, nameIndex := 15, descriptorIndex := 16, attributes := #[] }, { accessFlags := 18, nameIndex := 19, descriptorIndex := 20, attributes := #[] }, { accessFlags := 18, nameIndex := 23, descriptorIndex := 20, attributes := #[] }, { accessFlags := 18, nameIndex := 26, descriptorIndex := 20, attributes := #[] }, { accessFlags := 18, nameIndex := 35, descriptorIndex := 36, attributes := #[] }])
  fields := #[{ name := "kind", type := (.object "java/lang/String"), accessFlags := 18, slot := 0, constantValue := 0 }, { name := "attributes", type := (.array (.object "java/lang/String")), accessFlags := 18, slot := 1, constantValue := 0 }, { name := "location", type := (.object "com/example/mandoline/mandoline/ClangLocation"), accessFlags := 18, slot := 2, constantValue := 0 }, { name := "begin", type := (.object "com/example/mandoline/mandoline/ClangLocation"), accessFlags := 18, slot := 3, constantValue := 0 }, { name := "end", type := (.object "com/example/mandoline/mandoline/ClangLocation"), accessFlags := 18, slot := 4, constantValue := 0 }, { name := "children", type := (.object "java/util/List"), accessFlags := 18, slot := 5, constantValue := 0 }]
  methods := #[k33m0]
  instanceTypes := #[(.object "java/lang/String"), (.array (.object "java/lang/String")), (.object "com/example/mandoline/mandoline/ClangLocation"), (.object "com/example/mandoline/mandoline/ClangLocation"), (.object "com/example/mandoline/mandoline/ClangLocation"), (.object "java/util/List")]
  staticTypes := #[]
  resolved := Array.replicate 143 none
  statics := none }

def pool34 : Array CpInfo := pool [(6, .class_ 8), (1, u "java/lang/Object"), (0, u "<init>"), (0, u "()V"), (1, .class_ 14), (1, u "java/lang/StringUTF16"), (31, u "$assertionsDisabled"), (0, u "Z"), (13, u "HI_BYTE_SHIFT"), (0, u "I"), (2, u "LO_BYTE_SHIFT"), (49, .methodref 12 116), (0, .nameAndType 117 118), (0, u "compress"), (0, u "([CI[BII)I"), (3, u "([CII)[B"), (138, u "coderFromArrayLen"), (0, u "([BI)B"), (106, .class_ 371), (1, u "java/lang/StringUTF16$LinesSpliterator"), (58, u "MAX_LENGTH"), (196, .class_ 628), (0, u "java/lang/StringUTF16$CodePointsSpliterator"), (0, .class_ 630), (0, u "java/lang/StringUTF16$CharsSpliterator")] 4

def k34m0 : Method := { name := "<init>", desc := "()V", sig := { parameters := [], returnType := none }, accessFlags := 0, code := none }
def k34c1 : Code := { maxStack := 2, maxLocals := 2, code := jdk_52_method_15_code, exceptionTable := #[], attributes := #[] }
def k34m1 : Method := { name := "coderFromArrayLen", desc := "([BI)B", sig := { parameters := [(.array .byte), .int], returnType := some .byte }, accessFlags := 8, code := some k34c1 }
def k34c2 : Code := { maxStack := 5, maxLocals := 6, code := jdk_52_method_16_code, exceptionTable := #[], attributes := #[] }
def k34m2 : Method := { name := "compress", desc := "([CII)[B", sig := { parameters := [(.array .char), .int, .int], returnType := some (.array .byte) }, accessFlags := 9, code := some k34c2 }
def k34c3 : Code := { maxStack := 3, maxLocals := 7, code := jdk_52_method_21_code, exceptionTable := #[], attributes := #[] }
def k34m3 : Method := { name := "compress", desc := "([CI[BII)I", sig := { parameters := [(.array .char), .int, (.array .byte), .int, .int], returnType := some .int }, accessFlags := 9, code := some k34c3 }
/-- java/lang/StringUTF16 -/
def k34 : Class := { plain "java/lang/StringUTF16" (some 0) with
  accessFlags := 48
  interfaces := #[]
  cf := some (fileOf pool34 12 #[.nestMembers #[627, 629, 369]] #[{ accessFlags := 0, nameIndex := 9, descriptorIndex := 10, attributes := #[] }, { accessFlags := 8, nameIndex := 261, descriptorIndex := 262, attributes := #[] }, { accessFlags := 9, nameIndex := 117, descriptorIndex := 122, attributes := #[] }, { accessFlags := 9, nameIndex := 117, descriptorIndex := 118, attributes := #[] }] 48 6 #[] #[{ accessFlags := 26, nameIndex := 61, descriptorIndex := 62, attributes := #[] }, { accessFlags := 26, nameIndex := 65, descriptorIndex := 62, attributes := #[] }, { accessFlags := 24, nameIndex := 430, descriptorIndex := 62, attributes := #[] }, { accessFlags := 4120, nameIndex := 46, descriptorIndex := 47, attributes := #[] }])
  fields := #[{ name := "HI_BYTE_SHIFT", type := .int, accessFlags := 26, slot := 0, constantValue := 0 }, { name := "LO_BYTE_SHIFT", type := .int, accessFlags := 26, slot := 1, constantValue := 0 }, { name := "MAX_LENGTH", type := .int, accessFlags := 24, slot := 2, constantValue := 0 }, { name := "$assertionsDisabled", type := .boolean, accessFlags := 4120, slot := 3, constantValue := 0 }]
  methods := #[k34m0, k34m1, k34m2, k34m3]
  instanceTypes := #[]
  staticTypes := #[.int, .int, .int, .boolean]
  resolved := Array.replicate 635 none
  statics := none }

def pool35 : Array CpInfo := pool [(1, .methodref 2 3), (0, .class_ 4), (0, .nameAndType 5 6), (0, u "java/lang/Object"), (0, u "<init>"), (0, u "()V"), (1, .class_ 10), (1, u "java/util/AbstractCollection"), (66, .class_ 78), (0, u "java/util/Collection")] 81

def k35c0 : Code := { maxStack := 1, maxLocals := 1, code := jdk_22_method_1_code, exceptionTable := #[], attributes := #[] }
def k35m0 : Method := { name := "<init>", desc := "()V", sig := { parameters := [], returnType := none }, accessFlags := 4, code := some k35c0 }
/-- java/util/AbstractCollection -/
def k35 : Class := { plain "java/util/AbstractCollection" (some 0) with
  accessFlags := 1057
  interfaces := #[17]
  cf := some (fileOf pool35 8 #[] #[{ accessFlags := 4, nameIndex := 5, descriptorIndex := 6, attributes := #[] }] 1057 2 #[77] #[])
  fields := #[]
  methods := #[k35m0]
  instanceTypes := #[]
  staticTypes := #[]
  resolved := Array.replicate 160 none
  statics := none }

def pool36 : Array CpInfo := pool [(1, .methodref 2 3), (0, .class_ 4), (0, .nameAndType 5 6), (0, u "java/util/AbstractCollection"), (0, u "<init>"), (0, u "()V"), (0, .fieldref 8 9), (0, .class_ 10), (0, .nameAndType 11 12), (0, u "java/util/AbstractList"), (0, u "modCount"), (0, u "I"), (64, .class_ 78), (0, u "java/util/AbstractList$Itr"), (3, .class_ 83), (0, u "java/util/AbstractList$ListItr"), (9, .class_ 94), (0, u "java/util/AbstractList$RandomAccessSubList"), (3, .class_ 99), (0, u "java/util/AbstractList$SubList"), (33, .class_ 134), (0, u "java/util/List"), (73, .class_ 209), (0, u "java/util/AbstractList$SubList$1"), (0, .class_ 211), (0, u "java/util/AbstractList$RandomAccessSpliterator")] 6

def k36c0 : Code := { maxStack := 2, maxLocals := 1, code := jdk_39_method_1_code, exceptionTable := #[], attributes := #[] }
def k36m0 : Method := { name := "<init>", desc := "()V", sig := { parameters := [], returnType := none }, accessFlags := 4, code := some k36c0 }
/-- java/util/AbstractList -/
def k36 : Class := { plain "java/util/AbstractList" (some 35) with
  accessFlags := 1057
  interfaces := #[19]
  cf := some (fileOf pool36 8 #[.nestMembers #[93, 98, 208, 210, 82, 77]] #[{ accessFlags := 4, nameIndex := 5, descriptorIndex := 6, attributes := #[] }] 1057 2 #[133] #[{ accessFlags := 132, nameIndex := 11, descriptorIndex := 12, attributes := #[] }])
  fields := #[{ name := "modCount", type := .int, accessFlags := 132, slot := 0, constantValue := 0 }]
  methods := #[k36m0]
  instanceTypes := #[.int]
  staticTypes := #[]
  resolved := Array.replicate 218 none
  statics := none }

def pool37 : Array CpInfo := pool [(1, .class_ 2), (0, u "java/util/RandomAccess"), (0, .class_ 4), (0, u "java/lang/Object")] 2

/-- java/util/RandomAccess -/
def k37 : Class := { plain "java/util/RandomAccess" (some 0) with
  accessFlags := 1537
  interfaces := #[]
  cf := some (fileOf pool37 1 #[] #[] 1537 3 #[] #[])
  fields := #[]
  methods := #[]
  instanceTypes := #[]
  staticTypes := #[]
  resolved := Array.replicate 7 none
  statics := none }

def pool38 : Array CpInfo := pool [(1, .methodref 2 3), (0, .class_ 4), (0, .nameAndType 5 6), (0, u "java/util/AbstractList"), (0, u "<init>"), (0, u "()V"), (2, .fieldref 10 11), (0, .class_ 12), (0, .nameAndType 13 14), (0, u "java/util/ArrayList"), (0, u "elementData"), (0, u "[Ljava/lang/Object;"), (2, u "EMPTY_ELEMENTDATA"), (21, .fieldref 10 40), (0, .nameAndType 41 14), (0, u "DEFAULTCAPACITY_EMPTY_ELEMENTDATA"), (8, u "size"), (0, u "I"), (96, .class_ 149), (0, u "java/util/List"), (112, .class_ 263), (0, u "java/util/ArrayList$ListItr"), (3, .class_ 268), (0, u "java/util/ArrayList$Itr"), (7, .class_ 277), (0, u "java/util/ArrayList$SubList"), (12, .class_ 291), (0, u "java/util/ArrayList$ArrayListSpliterator"), (37, .class_ 330), (0, u "java/util/RandomAccess"), (0, .class_ 332), (0, u "java/lang/Cloneable"), (0, .class_ 334), (0, u "java/io/Serializable"), (0, u "serialVersionUID"), (0, u "J"), (3, u "DEFAULT_CAPACITY"), (159, .class_ 501), (0, u "java/util/ArrayList$SubList$2"), (0, .class_ 503), (0, u "java/util/ArrayList$SubList$1")] 5

def k38c0 : Code := { maxStack := 2, maxLocals := 1, code := jdk_38_method_2_code, exceptionTable := #[], attributes := #[] }
def k38m0 : Method := { name := "<init>", desc := "()V", sig := { parameters := [], returnType := none }, accessFlags := 1, code := some k38c0 }
/-- java/util/ArrayList -/
def k38 : Class := { plain "java/util/ArrayList" (some 36) with
  accessFlags := 33
  interfaces := #[19, 37, 12, 3]
  cf := some (fileOf pool38 10 #[.nestMembers #[290, 276, 500, 502, 262, 267]] #[{ accessFlags := 1, nameIndex := 5, descriptorIndex := 6, attributes := #[] }] 33 2 #[148, 329, 331, 333] #[{ accessFlags := 26, nameIndex := 335, descriptorIndex := 336, attributes := #[] }, { accessFlags := 26, nameIndex := 340, descriptorIndex := 51, attributes := #[] }, { accessFlags := 26, nameIndex := 17, descriptorIndex := 14, attributes := #[] }, { accessFlags := 26, nameIndex := 41, descriptorIndex := 14, attributes := #[] }, { accessFlags := 128, nameIndex := 13, descriptorIndex := 14, attributes := #[] }, { accessFlags := 2, nameIndex := 50, descriptorIndex := 51, attributes := #[] }])
  fields := #[{ name := "serialVersionUID", type := .long, accessFlags := 26, slot := 0, constantValue := 0 }, { name := "DEFAULT_CAPACITY", type := .int, accessFlags := 26, slot := 1, constantValue := 0 }, { name := "EMPTY_ELEMENTDATA", type := (.array (.object "java/lang/Object")), accessFlags := 26, slot := 2, constantValue := 0 }, { name := "DEFAULTCAPACITY_EMPTY_ELEMENTDATA", type := (.array (.object "java/lang/Object")), accessFlags := 26, slot := 3, constantValue := 0 }, { name := "elementData", type := (.array (.object "java/lang/Object")), accessFlags := 128, slot := 1, constantValue := 0 }, { name := "size", type := .int, accessFlags := 2, slot := 2, constantValue := 0 }]
  methods := #[k38m0]
  instanceTypes := #[.int, (.array (.object "java/lang/Object")), .int]
  staticTypes := #[.long, .int, (.array (.object "java/lang/Object")), (.array (.object "java/lang/Object"))]
  resolved := Array.replicate 509 none
  mirror := some 4
  statics := some 2 }

def pool39 : Array CpInfo := pool [(2, .class_ 4), (1, u "java/lang/Object"), (0, u "<init>"), (0, u "()V"), (1, .class_ 10), (1, u "java/util/List"), (2, .class_ 14), (0, u "java/util/RandomAccess"), (4, .class_ 20), (0, u "java/util/Collections"), (63, u "r"), (0, u "Ljava/util/Random;"), (67, u "(Ljava/util/List;)V"), (9, .nameAndType 164 165), (0, u "getClass"), (0, u "()Ljava/lang/Class;"), (0, .class_ 167), (0, u "java/util/Collections$UnmodifiableCollection"), (6, .class_ 175), (0, u "java/util/Collections$UnmodifiableSequencedCollection"), (6, .class_ 183), (0, u "java/util/Collections$UnmodifiableSet"), (6, .class_ 191), (0, u "java/util/Collections$UnmodifiableSequencedSet"), (6, .class_ 199), (0, u "java/util/Collections$UnmodifiableSortedSet"), (6, .class_ 207), (0, u "java/util/Collections$UnmodifiableNavigableSet"), (3, .interfaceMethodref 8 163), (0, .class_ 213), (0, u "java/util/Collections$UnmodifiableList"), (0, .interfaceMethodref 8 163), (0, .class_ 216), (0, u "java/util/Collections$UnmodifiableRandomAccessList"), (0, .methodref 215 218), (0, .nameAndType 5 153), (4, .class_ 224), (0, u "java/util/Collections$UnmodifiableMap"), (6, .class_ 232), (0, u "java/util/Collections$UnmodifiableSequencedMap"), (4, .class_ 238), (0, u "java/util/Collections$UnmodifiableSortedMap"), (6, .class_ 246), (0, u "java/util/Collections$UnmodifiableNavigableMap"), (3, .class_ 251), (0, u "java/util/Collections$SynchronizedCollection"), (4, .class_ 257), (0, u "java/util/Collections$SynchronizedSet"), (4, .class_ 263), (0, u "java/util/Collections$SynchronizedSortedSet"), (1, .class_ 266), (0, u "java/util/Collections$SynchronizedNavigableSet"), (1, .class_ 269), (0, u "java/util/Collections$SynchronizedRandomAccessList"), (1, .class_ 272), (0, u "java/util/Collections$SynchronizedList"), (5, .class_ 279), (0, u "java/util/Collections$SynchronizedMap"), (1, .class_ 282), (0, u "java/util/Collections$SynchronizedSortedMap"), (1, .class_ 285), (0, u "java/util/Collections$SynchronizedNavigableMap"), (1, .class_ 288), (0, u "java/util/Collections$CheckedCollection"), (11, .class_ 301), (0, u "java/util/Collections$CheckedQueue"), (3, .class_ 306), (0, u "java/util/Collections$CheckedSet"), (3, .class_ 311), (0, u "java/util/Collections$CheckedSortedSet"), (3, .class_ 316), (0, u "java/util/Collections$CheckedNavigableSet"), (3, .class_ 321), (0, u "java/util/Collections$CheckedRandomAccessList"), (3, .class_ 326), (0, u "java/util/Collections$CheckedList"), (1, .class_ 329), (0, u "java/util/Collections$CheckedMap"), (3, .class_ 334), (0, u "java/util/Collections$CheckedSortedMap"), (3, .class_ 339), (0, u "java/util/Collections$CheckedNavigableMap"), (4, .class_ 346), (1, u "java/util/Collections$EmptyIterator"), (3, .class_ 352), (1, u "java/util/Collections$EmptyListIterator"), (2, .class_ 357), (1, u "java/util/Collections$EmptyEnumeration"), (4, u "EMPTY_SET"), (0, u "Ljava/util/Set;"), (6, u "EMPTY_LIST"), (0, u "Ljava/util/List;"), (2, u "EMPTY_MAP"), (0, u "Ljava/util/Map;"), (4, .class_ 381), (0, u "java/util/Collections$SingletonSet"), (2, .class_ 385), (0, u "java/util/Collections$1"), (1, .class_ 388), (0, u "java/util/Collections$2"), (1, .class_ 391), (0, u "java/util/Collections$SingletonList"), (1, .class_ 394), (0, u "java/util/Collections$SingletonMap"), (22, .class_ 418), (0, u "java/util/Collections$CopiesList"), (4, .class_ 425), (1, u "java/util/Collections$ReverseComparator"), (8, .class_ 435), (0, u "java/util/Collections$ReverseComparator2"), (6, .class_ 443), (0, u "java/util/Collections$3"), (25, .class_ 470), (0, u "java/util/Collections$SetFromMap"), (2, .class_ 474), (0, u "java/util/Collections$SequencedSetFromMap"), (3, .class_ 479), (0, u "java/util/Collections$AsLIFOQueue"), (11, .class_ 492), (0, u "java/util/Collections$EmptySet"), (1, .class_ 495), (0, u "java/util/Collections$EmptyList"), (1, .class_ 498), (0, u "java/util/Collections$EmptyMap"), (1, u "BINARYSEARCH_THRESHOLD"), (0, u "I"), (2, u "REVERSE_THRESHOLD"), (1, u "SHUFFLE_THRESHOLD"), (1, u "FILL_THRESHOLD"), (1, u "ROTATE_THRESHOLD"), (1, u "COPY_THRESHOLD"), (1, u "REPLACEALL_THRESHOLD"), (1, u "INDEXOFSUBLIST_THRESHOLD"), (129, u "unmodifiableList"), (0, u "(Ljava/util/List;)Ljava/util/List;"), (202, .class_ 851), (0, u "java/util/Collections$CheckedMap$CheckedEntrySet"), (0, .class_ 853), (0, u "java/util/Collections$CheckedMap$CheckedEntrySet$CheckedEntry"), (0, .class_ 855), (0, u "java/util/Collections$CheckedMap$CheckedEntrySet$1"), (0, .class_ 857), (0, u "java/util/Collections$CheckedList$1"), (0, .class_ 859), (0, u "java/util/Collections$CheckedCollection$1"), (0, .class_ 861), (0, u "java/util/Collections$UnmodifiableNavigableMap$EmptyNavigableMap"), (0, .class_ 863), (0, u "java/util/Collections$UnmodifiableMap$UnmodifiableEntrySet"), (0, .class_ 865), (0, u "java/util/Collections$UnmodifiableMap$UnmodifiableEntrySet$UnmodifiableEntry"), (0, .class_ 867), (0, u "java/util/Collections$UnmodifiableMap$UnmodifiableEntrySet$UnmodifiableEntrySetSpliterator"), (0, .class_ 869), (0, u "java/util/Collections$UnmodifiableMap$UnmodifiableEntrySet$1"), (0, .class_ 871), (0, u "java/util/Collections$UnmodifiableList$1"), (0, .class_ 873), (0, u "java/util/Collections$UnmodifiableNavigableSet$EmptyNavigableSet"), (0, .class_ 875), (0, u "java/util/Collections$UnmodifiableCollection$1")] 57

def k39m0 : Method := { name := "<init>", desc := "()V", sig := { parameters := [], returnType := none }, accessFlags := 2, code := none }
def k39c1 : Code := { maxStack := 3, maxLocals := 1, code := jdk_79_method_35_code, exceptionTable := #[], attributes := #[] }
def k39m1 : Method := { name := "unmodifiableList", desc := "(Ljava/util/List;)Ljava/util/List;", sig := { parameters := [(.object "java/util/List")], returnType := some (.object "java/util/List") }, accessFlags := 9, code := some k39c1 }
/-- java/util/Collections -/
def k39 : Class := { plain "java/util/Collections" (some 0) with
  accessFlags := 33
  interfaces := #[]
  cf := some (fileOf pool39 19 #[.nestMembers #[478, 473, 469, 434, 423, 417, 393, 390, 380, 497, 494, 491, 355, 350, 344, 338, 333, 328, 850, 852, 854, 320, 325, 856, 315, 310, 305, 300, 287, 858, 284, 281, 278, 268, 271, 265, 262, 256, 250, 245, 860, 237, 231, 223, 862, 864, 866, 868, 215, 212, 870, 206, 872, 198, 190, 182, 174, 166, 874, 442, 387, 384]] #[{ accessFlags := 2, nameIndex := 5, descriptorIndex := 6, attributes := #[] }, { accessFlags := 9, nameIndex := 646, descriptorIndex := 647, attributes := #[] }] 33 2 #[] #[{ accessFlags := 26, nameIndex := 500, descriptorIndex := 501, attributes := #[] }, { accessFlags := 26, nameIndex := 504, descriptorIndex := 501, attributes := #[] }, { accessFlags := 26, nameIndex := 506, descriptorIndex := 501, attributes := #[] }, { accessFlags := 26, nameIndex := 508, descriptorIndex := 501, attributes := #[] }, { accessFlags := 26, nameIndex := 510, descriptorIndex := 501, attributes := #[] }, { accessFlags := 26, nameIndex := 512, descriptorIndex := 501, attributes := #[] }, { accessFlags := 26, nameIndex := 514, descriptorIndex := 501, attributes := #[] }, { accessFlags := 26, nameIndex := 516, descriptorIndex := 501, attributes := #[] }, { accessFlags := 10, nameIndex := 84, descriptorIndex := 85, attributes := #[] }, { accessFlags := 25, nameIndex := 362, descriptorIndex := 363, attributes := #[] }, { accessFlags := 25, nameIndex := 370, descriptorIndex := 371, attributes := #[] }, { accessFlags := 25, nameIndex := 374, descriptorIndex := 375, attributes := #[] }])
  fields := #[{ name := "BINARYSEARCH_THRESHOLD", type := .int, accessFlags := 26, slot := 0, constantValue := 0 }, { name := "REVERSE_THRESHOLD", type := .int, accessFlags := 26, slot := 1, constantValue := 0 }, { name := "SHUFFLE_THRESHOLD", type := .int, accessFlags := 26, slot := 2, constantValue := 0 }, { name := "FILL_THRESHOLD", type := .int, accessFlags := 26, slot := 3, constantValue := 0 }, { name := "ROTATE_THRESHOLD", type := .int, accessFlags := 26, slot := 4, constantValue := 0 }, { name := "COPY_THRESHOLD", type := .int, accessFlags := 26, slot := 5, constantValue := 0 }, { name := "REPLACEALL_THRESHOLD", type := .int, accessFlags := 26, slot := 6, constantValue := 0 }, { name := "INDEXOFSUBLIST_THRESHOLD", type := .int, accessFlags := 26, slot := 7, constantValue := 0 }, { name := "r", type := (.object "java/util/Random"), accessFlags := 10, slot := 8, constantValue := 0 }, { name := "EMPTY_SET", type := (.object "java/util/Set"), accessFlags := 25, slot := 9, constantValue := 0 }, { name := "EMPTY_LIST", type := (.object "java/util/List"), accessFlags := 25, slot := 10, constantValue := 0 }, { name := "EMPTY_MAP", type := (.object "java/util/Map"), accessFlags := 25, slot := 11, constantValue := 0 }]
  methods := #[k39m0, k39m1]
  instanceTypes := #[]
  staticTypes := #[.int, .int, .int, .int, .int, .int, .int, .int, (.object "java/util/Random"), (.object "java/util/Set"), (.object "java/util/List"), (.object "java/util/Map")]
  resolved := Array.replicate 933 none
  statics := none }

def pool40 : Array CpInfo := pool [(1, .methodref 2 3), (0, .class_ 4), (0, .nameAndType 5 6), (0, u "java/lang/Object"), (0, u "<init>"), (0, u "()V"), (3, .fieldref 11 12), (0, .class_ 13), (0, .nameAndType 14 15), (0, u "java/util/Collections$UnmodifiableCollection"), (0, u "c"), (0, u "Ljava/util/Collection;"), (1, .class_ 19), (1, u "java/util/Collection"), (51, .class_ 72), (0, u "java/io/Serializable"), (0, u "serialVersionUID"), (0, u "J"), (5, u "(Ljava/util/Collection;)V"), (51, .class_ 133), (0, u "java/util/Collections")] 2

def k40c0 : Code := { maxStack := 2, maxLocals := 2, code := jdk_119_method_1_code, exceptionTable := #[], attributes := #[] }
def k40m0 : Method := { name := "<init>", desc := "(Ljava/util/Collection;)V", sig := { parameters := [(.object "java/util/Collection")], returnType := none }, accessFlags := 0, code := some k40c0 }
/-- java/util/Collections$UnmodifiableCollection -/
def k40 : Class := { plain "java/util/Collections$UnmodifiableCollection" (some 0) with
  accessFlags := 32
  interfaces := #[17, 3]
  cf := some (fileOf pool40 11 #[.nestHost 132] #[{ accessFlags := 0, nameIndex := 5, descriptorIndex := 80, attributes := #[] }] 32 2 #[17, 71] #[{ accessFlags := 26, nameIndex := 73, descriptorIndex := 74, attributes := #[] }, { accessFlags := 16, nameIndex := 14, descriptorIndex := 15, attributes := #[] }])
  fields := #[{ name := "serialVersionUID", type := .long, accessFlags := 26, slot := 0, constantValue := 0 }, { name := "c", type := (.object "java/util/Collection"), accessFlags := 16, slot := 0, constantValue := 0 }]
  methods := #[k40m0]
  instanceTypes := #[(.object "java/util/Collection")]
  staticTypes := #[.long]
  resolved := Array.replicate 136 none
  statics := none }

def pool41 : Array CpInfo := pool [(1, .methodref 2 3), (0, .class_ 4), (0, .nameAndType 5 6), (0, u "java/util/Collections$UnmodifiableCollection"), (0, u "<init>"), (0, u "(Ljava/util/Collection;)V"), (0, .fieldref 8 9), (0, .class_ 10), (0, .nameAndType 11 12), (0, u "java/util/Collections$UnmodifiableList"), (0, u "list"), (0, u "Ljava/util/List;"), (1, .class_ 16), (1, u "java/util/List"), (37, u "(Ljava/util/List;)V"), (5, u "serialVersionUID"), (0, u "J"), (59, .class_ 122), (0, u "java/util/Collections")] 4

def k41c0 : Code := { maxStack := 2, maxLocals := 2, code := jdk_120_method_1_code, exceptionTable := #[], attributes := #[] }
def k41m0 : Method := { name := "<init>", desc := "(Ljava/util/List;)V", sig := { parameters := [(.object "java/util/List")], returnType := none }, accessFlags := 0, code := some k41c0 }
/-- java/util/Collections$UnmodifiableList -/
def k41 : Class := { plain "java/util/Collections$UnmodifiableList" (some 40) with
  accessFlags := 32
  interfaces := #[19]
  cf := some (fileOf pool41 8 #[.nestHost 121] #[{ accessFlags := 0, nameIndex := 5, descriptorIndex := 54, attributes := #[] }] 32 2 #[14] #[{ accessFlags := 26, nameIndex := 60, descriptorIndex := 61, attributes := #[] }, { accessFlags := 16, nameIndex := 11, descriptorIndex := 12, attributes := #[] }])
  fields := #[{ name := "serialVersionUID", type := .long, accessFlags := 26, slot := 0, constantValue := 0 }, { name := "list", type := (.object "java/util/List"), accessFlags := 16, slot := 1, constantValue := 0 }]
  methods := #[k41m0]
  instanceTypes := #[(.object "java/util/Collection"), (.object "java/util/List")]
  staticTypes := #[.long]
  resolved := Array.replicate 127 none
  mirror := some 5
  statics := none }

def pool42 : Array CpInfo := pool [(1, .methodref 2 3), (0, .class_ 4), (0, .nameAndType 5 6), (0, u "java/util/Collections$UnmodifiableList"), (0, u "<init>"), (0, u "(Ljava/util/List;)V"), (0, .class_ 8), (0, u "java/util/Collections$UnmodifiableRandomAccessList"), (11, .class_ 21), (0, u "java/util/RandomAccess"), (0, u "serialVersionUID"), (0, u "J"), (23, .class_ 48), (0, u "java/util/Collections")] 3

def k42c0 : Code := { maxStack := 2, maxLocals := 2, code := jdk_121_method_1_code, exceptionTable := #[], attributes := #[] }
def k42m0 : Method := { name := "<init>", desc := "(Ljava/util/List;)V", sig := { parameters := [(.object "java/util/List")], returnType := none }, accessFlags := 0, code := some k42c0 }
/-- java/util/Collections$UnmodifiableRandomAccessList -/
def k42 : Class := { plain "java/util/Collections$UnmodifiableRandomAccessList" (some 41) with
  accessFlags := 32
  interfaces := #[37]
  cf := some (fileOf pool42 7 #[.nestHost 47] #[{ accessFlags := 0, nameIndex := 5, descriptorIndex := 6, attributes := #[] }] 32 2 #[20] #[{ accessFlags := 26, nameIndex := 22, descriptorIndex := 23, attributes := #[] }])
  fields := #[{ name := "serialVersionUID", type := .long, accessFlags := 26, slot := 0, constantValue := 0 }]
  methods := #[k42m0]
  instanceTypes := #[(.object "java/util/Collection"), (.object "java/util/List")]
  staticTypes := #[.long]
  resolved := Array.replicate 52 none
  mirror := some 6
  statics := none }

def pool43 : Array CpInfo := pool [(2, .class_ 4), (1, u "java/lang/Object"), (0, u "<init>"), (0, u "()V"), (17, .class_ 26), (1, u "jdk/internal/util/Preconditions"), (28, .class_ 56), (0, u "jdk/internal/util/Preconditions$4"), (57, .class_ 115), (0, u "jdk/internal/util/Preconditions$1"), (7, u "SIOOBE_FORMATTER"), (0, u "Ljava/util/function/BiFunction;"), (0, .class_ 126), (0, u "jdk/internal/util/Preconditions$2"), (3, u "AIOOBE_FORMATTER"), (0, .class_ 132), (0, u "jdk/internal/util/Preconditions$3"), (3, u "IOOBE_FORMATTER")] 57

def k43m0 : Method := { name := "<init>", desc := "()V", sig := { parameters := [], returnType := none }, accessFlags := 1, code := none }
/-- jdk/internal/util/Preconditions -/
def k43 : Class := { plain "jdk/internal/util/Preconditions" (some 0) with
  accessFlags := 33
  interfaces := #[]
  cf := some (fileOf pool43 24 #[.nestMembers #[55, 131, 125, 114]] #[{ accessFlags := 1, nameIndex := 5, descriptorIndex := 6, attributes := #[] }] 33 2 #[] #[{ accessFlags := 25, nameIndex := 123, descriptorIndex := 124, attributes := #[] }, { accessFlags := 25, nameIndex := 130, descriptorIndex := 124, attributes := #[] }, { accessFlags := 25, nameIndex := 136, descriptorIndex := 124, attributes := #[] }])
  fields := #[{ name := "SIOOBE_FORMATTER", type := (.object "java/util/function/BiFunction"), accessFlags := 25, slot := 0, constantValue := 0 }, { name := "AIOOBE_FORMATTER", type := (.object "java/util/function/BiFunction"), accessFlags := 25, slot := 1, constantValue := 0 }, { name := "IOOBE_FORMATTER", type := (.object "java/util/function/BiFunction"), accessFlags := 25, slot := 2, constantValue := 0 }]
  methods := #[k43m0]
  instanceTypes := #[]
  staticTypes := #[(.object "java/util/function/BiFunction"), (.object "java/util/function/BiFunction"), (.object "java/util/function/BiFunction")]
  resolved := Array.replicate 194 none
  statics := some 3 }

def pool44 : Array CpInfo := pool [(9, u "<init>"), (6, .class_ 18), (1, u "java/lang/Object"), (0, u "()V"), (1, .class_ 23), (1, u "jdk/internal/util/ArraysSupport"), (0, u "LOG2_ARRAY_LONG_INDEX_SCALE"), (0, u "I"), (2, u "U"), (0, u "Ljdk/internal/misc/Unsafe;"), (8, u "BIG_ENDIAN"), (0, u "Z"), (8, u "LOG2_BYTE_BIT_SIZE"), (4, u "LOG2_ARRAY_INT_INDEX_SCALE"), (54, u "JLA"), (0, u "Ljdk/internal/access/JavaLangAccess;"), (11, u "LOG2_ARRAY_BOOLEAN_INDEX_SCALE"), (9, u "LOG2_ARRAY_BYTE_INDEX_SCALE"), (5, u "LOG2_ARRAY_CHAR_INDEX_SCALE"), (5, u "LOG2_ARRAY_SHORT_INDEX_SCALE"), (18, u "LOG2_ARRAY_FLOAT_INDEX_SCALE"), (24, u "LOG2_ARRAY_DOUBLE_INDEX_SCALE"), (89, u "T_BOOLEAN"), (2, u "T_CHAR"), (1, u "T_FLOAT"), (1, u "T_DOUBLE"), (1, u "T_BYTE"), (1, u "T_SHORT"), (1, u "T_INT"), (1, u "T_LONG"), (1, u "SOFT_MAX_ARRAY_LENGTH")] 83

def k44m0 : Method := { name := "<init>", desc := "()V", sig := { parameters := [], returnType := none }, accessFlags := 2, code := none }
/-- jdk/internal/util/ArraysSupport -/
def k44 : Class := { plain "jdk/internal/util/ArraysSupport" (some 0) with
  accessFlags := 33
  interfaces := #[]
  cf := some (fileOf pool44 21 #[] #[{ accessFlags := 2, nameIndex := 9, descriptorIndex := 19, attributes := #[] }] 33 16 #[] #[{ accessFlags := 24, nameIndex := 28, descriptorIndex := 29, attributes := #[] }, { accessFlags := 26, nameIndex := 38, descriptorIndex := 39, attributes := #[] }, { accessFlags := 25, nameIndex := 121, descriptorIndex := 25, attributes := #[] }, { accessFlags := 25, nameIndex := 131, descriptorIndex := 25, attributes := #[] }, { accessFlags := 25, nameIndex := 137, descriptorIndex := 25, attributes := #[] }, { accessFlags := 25, nameIndex := 143, descriptorIndex := 25, attributes := #[] }, { accessFlags := 25, nameIndex := 53, descriptorIndex := 25, attributes := #[] }, { accessFlags := 25, nameIndex := 24, descriptorIndex := 25, attributes := #[] }, { accessFlags := 25, nameIndex := 162, descriptorIndex := 25, attributes := #[] }, { accessFlags := 25, nameIndex := 187, descriptorIndex := 25, attributes := #[] }, { accessFlags := 26, nameIndex := 48, descriptorIndex := 25, attributes := #[] }, { accessFlags := 25, nameIndex := 277, descriptorIndex := 25, attributes := #[] }, { accessFlags := 25, nameIndex := 280, descriptorIndex := 25, attributes := #[] }, { accessFlags := 25, nameIndex := 282, descriptorIndex := 25, attributes := #[] }, { accessFlags := 25, nameIndex := 284, descriptorIndex := 25, attributes := #[] }, { accessFlags := 25, nameIndex := 286, descriptorIndex := 25, attributes := #[] }, { accessFlags := 25, nameIndex := 288, descriptorIndex := 25, attributes := #[] }, { accessFlags := 25, nameIndex := 290, descriptorIndex := 25, attributes := #[] }, { accessFlags := 25, nameIndex := 292, descriptorIndex := 25, attributes := #[] }, { accessFlags := 26, nameIndex := 108, descriptorIndex := 109, attributes := #[] }, { accessFlags := 25, nameIndex := 294, descriptorIndex := 25, attributes := #[] }])
  fields := #[{ name := "U", type := (.object "jdk/internal/misc/Unsafe"), accessFlags := 24, slot := 0, constantValue := 0 }, { name := "BIG_ENDIAN", type := .boolean, accessFlags := 26, slot := 1, constantValue := 0 }, { name := "LOG2_ARRAY_BOOLEAN_INDEX_SCALE", type := .int, accessFlags := 25, slot := 2, constantValue := 0 }, { name := "LOG2_ARRAY_BYTE_INDEX_SCALE", type := .int, accessFlags := 25, slot := 3, constantValue := 0 }, { name := "LOG2_ARRAY_CHAR_INDEX_SCALE", type := .int, accessFlags := 25, slot := 4, constantValue := 0 }, { name := "LOG2_ARRAY_SHORT_INDEX_SCALE", type := .int, accessFlags := 25, slot := 5, constantValue := 0 }, { name := "LOG2_ARRAY_INT_INDEX_SCALE", type := .int, accessFlags := 25, slot := 6, constantValue := 0 }, { name := "LOG2_ARRAY_LONG_INDEX_SCALE", type := .int, accessFlags := 25, slot := 7, constantValue := 0 }, { name := "LOG2_ARRAY_FLOAT_INDEX_SCALE", type := .int, accessFlags := 25, slot := 8, constantValue := 0 }, { name := "LOG2_ARRAY_DOUBLE_INDEX_SCALE", type := .int, accessFlags := 25, slot := 9, constantValue := 0 }, { name := "LOG2_BYTE_BIT_SIZE", type := .int, accessFlags := 26, slot := 10, constantValue := 0 }, { name := "T_BOOLEAN", type := .int, accessFlags := 25, slot := 11, constantValue := 0 }, { name := "T_CHAR", type := .int, accessFlags := 25, slot := 12, constantValue := 0 }, { name := "T_FLOAT", type := .int, accessFlags := 25, slot := 13, constantValue := 0 }, { name := "T_DOUBLE", type := .int, accessFlags := 25, slot := 14, constantValue := 0 }, { name := "T_BYTE", type := .int, accessFlags := 25, slot := 15, constantValue := 0 }, { name := "T_SHORT", type := .int, accessFlags := 25, slot := 16, constantValue := 0 }, { name := "T_INT", type := .int, accessFlags := 25, slot := 17, constantValue := 0 }, { name := "T_LONG", type := .int, accessFlags := 25, slot := 18, constantValue := 0 }, { name := "JLA", type := (.object "jdk/internal/access/JavaLangAccess"), accessFlags := 26, slot := 19, constantValue := 0 }, { name := "SOFT_MAX_ARRAY_LENGTH", type := .int, accessFlags := 25, slot := 20, constantValue := 0 }]
  methods := #[k44m0]
  instanceTypes := #[]
  staticTypes := #[(.object "jdk/internal/misc/Unsafe"), .boolean, .int, .int, .int, .int, .int, .int, .int, .int, .int, .int, .int, .int, .int, .int, .int, .int, .int, (.object "jdk/internal/access/JavaLangAccess"), .int]
  resolved := Array.replicate 378 none
  statics := none }

def pool45 : Array CpInfo := pool [(2, .class_ 4), (1, u "java/util/AbstractCollection"), (0, u "<init>"), (0, u "()V"), (1, .class_ 10), (1, u "java/util/ImmutableCollections"), (2, .class_ 14), (0, u "java/util/ImmutableCollections$AbstractImmutableCollection")] 41

def k45m0 : Method := { name := "<init>", desc := "()V", sig := { parameters := [], returnType := none }, accessFlags := 0, code := none }
/-- java/util/ImmutableCollections$AbstractImmutableCollection -/
def k45 : Class := { plain "java/util/ImmutableCollections$AbstractImmutableCollection" (some 35) with
  accessFlags := 1056
  interfaces := #[]
  cf := some (fileOf pool45 13 #[.nestHost 8] #[{ accessFlags := 0, nameIndex := 5, descriptorIndex := 6, attributes := #[] }] 1056 2 #[] #[])
  fields := #[]
  methods := #[k45m0]
  instanceTypes := #[]
  staticTypes := #[]
  resolved := Array.replicate 56 none
  statics := none }

def pool46 : Array CpInfo := pool [(2, .class_ 4), (1, u "java/util/ImmutableCollections$AbstractImmutableCollection"), (0, u "<init>"), (0, u "()V"), (1, .class_ 10), (1, u "java/util/ImmutableCollections"), (3, .class_ 16), (1, u "java/util/ImmutableCollections$AbstractImmutableList"), (60, .class_ 78), (0, u "java/util/List"), (45, .class_ 125), (0, u "java/util/RandomAccess")] 70

def k46m0 : Method := { name := "<init>", desc := "()V", sig := { parameters := [], returnType := none }, accessFlags := 0, code := none }
/-- java/util/ImmutableCollections$AbstractImmutableList -/
def k46 : Class := { plain "java/util/ImmutableCollections$AbstractImmutableList" (some 45) with
  accessFlags := 1056
  interfaces := #[19, 37]
  cf := some (fileOf pool46 14 #[.nestHost 8] #[{ accessFlags := 0, nameIndex := 5, descriptorIndex := 6, attributes := #[] }] 1056 2 #[77, 124] #[])
  fields := #[]
  methods := #[k46m0]
  instanceTypes := #[]
  staticTypes := #[]
  resolved := Array.replicate 196 none
  statics := none }

def pool47 : Array CpInfo := pool [(2, .class_ 4), (1, u "java/util/ImmutableCollections$AbstractImmutableList"), (3, .class_ 10), (1, u "java/util/ImmutableCollections$ListN"), (0, u "elements"), (0, u "[Ljava/lang/Object;"), (2, u "allowNulls"), (0, u "Z"), (42, .class_ 60), (0, u "java/io/Serializable"), (53, .class_ 115), (0, u "java/util/ImmutableCollections")] 3

/-- java/util/ImmutableCollections$ListN -/
def k47 : Class := { plain "java/util/ImmutableCollections$ListN" (some 46) with
  accessFlags := 48
  interfaces := #[3]
  cf := some (fileOf pool47 8 #[.nestHost 114] #[] 48 2 #[59] #[{ accessFlags := 18, nameIndex := 11, descriptorIndex := 12, attributes := #[] }, { accessFlags := 18, nameIndex := 15, descriptorIndex := 16, attributes := #[] }])
  fields := #[{ name := "elements", type := (.array (.object "java/lang/Object")), accessFlags := 18, slot := 0, constantValue := 0 }, { name := "allowNulls", type := .boolean, accessFlags := 18, slot := 1, constantValue := 0 }]
  methods := #[]
  instanceTypes := #[(.array (.object "java/lang/Object")), .boolean]
  staticTypes := #[]
  resolved := Array.replicate 119 none
  statics := none }

def pool48 : Array CpInfo := pool [(1, u "java/lang/Class"), (0, .class_ 1), (0, u "java/lang/Object"), (0, .class_ 3)] 3

/-- java/lang/Class -/
def k48 : Class := { plain "java/lang/Class" (some 0) with
  accessFlags := 49
  interfaces := #[]
  cf := some (fileOf pool48 2 #[] #[] 49 4 #[] #[])
  fields := #[]
  methods := #[]
  instanceTypes := #[]
  staticTypes := #[]
  resolved := Array.replicate 8 none
  statics := none }

/-- the primitive byte -/
def k49 : Class := { plain "byte" none with kind := .primitive 'B', accessFlags := 0x411 }
/-- [B -/
def k50 : Class := { plain "[B" (some 0) with kind := .array 49 .byte, interfaces := #[12, 3], accessFlags := 1041 }

/-- the primitive char -/
def k51 : Class := { plain "char" none with kind := .primitive 'C', accessFlags := 0x411 }
/-- [C -/
def k52 : Class := { plain "[C" (some 0) with kind := .array 51 .char, interfaces := #[12, 3], accessFlags := 1041 }

/-- the primitive int -/
def k53 : Class := { plain "int" none with kind := .primitive 'I', accessFlags := 0x411 }
/-- [I -/
def k54 : Class := { plain "[I" (some 0) with kind := .array 53 .int, interfaces := #[12, 3], accessFlags := 1041 }

/-- [Ljava/lang/Object; -/
def k55 : Class := { plain "[Ljava/lang/Object;" (some 0) with kind := .array 0 (.object "java/lang/Object"), interfaces := #[12, 3], accessFlags := 1041 }

/-- [Ljava/lang/String; -/
def k56 : Class := { plain "[Ljava/lang/String;" (some 0) with kind := .array 8 (.object "java/lang/String"), interfaces := #[12, 3], accessFlags := 1041 }

/-- [Ljava/util/HashMap$Node; -/
def k57 : Class := { plain "[Ljava/util/HashMap$Node;" (some 0) with kind := .array 25 (.object "java/util/HashMap$Node"), interfaces := #[12, 3], accessFlags := 1041 }

def classes0 : Array Class := #[k0, k1, k2, k3, k4, k5, k6, k7, k8, k9, k10, k11, k12, k13, k14, k15, k16, k17, k18, k19, k20, k21, k22, k23, k24, k25, k26, k27, k28, k29, k30, k31, k32, k33, k34, k35, k36, k37, k38, k39, k40, k41, k42, k43, k44, k45, k46, k47, k48, k49, k50, k51, k52, k53, k54, k55, k56, k57]
/-- the class that the rule has made for the site at 10 of com/example/mandoline/mandoline/Variable.addField -/
def k58 : Class := Jvm.LamKit.madeRec { classes := classes0 } "com/example/mandoline/mandoline/Variable" (Jvm.Lambda.Shape.mk "java/util/function/Function" "apply" (Jvm.ClassFile.MethodDescriptor.mk ([(Jvm.ClassFile.FieldType.object "java/lang/Object")] : List Jvm.ClassFile.FieldType) (Option.some (Jvm.ClassFile.FieldType.object "java/lang/Object"))) ([(Jvm.ClassFile.FieldType.object "com/example/mandoline/mandoline/Variable"), (Jvm.ClassFile.FieldType.object "com/example/mandoline/mandoline/Place$Field")] : List Jvm.ClassFile.FieldType) (5 : Nat) "com/example/mandoline/mandoline/Variable" "lambda$addField$0" (Jvm.ClassFile.MethodDescriptor.mk ([(Jvm.ClassFile.FieldType.object "com/example/mandoline/mandoline/Place$Field"), (Jvm.ClassFile.FieldType.object "java/lang/String")] : List Jvm.ClassFile.FieldType) (Option.some (Jvm.ClassFile.FieldType.object "com/example/mandoline/mandoline/Variable"))) false (Jvm.ClassFile.MethodDescriptor.mk ([(Jvm.ClassFile.FieldType.object "java/lang/String")] : List Jvm.ClassFile.FieldType) (Option.some (Jvm.ClassFile.FieldType.object "com/example/mandoline/mandoline/Variable")))) 58

def heap : Heap := #[{ cls := 8, slots := #[.long 0, .int 1, .null, .int 0, .null, .int 0, .int 0], vm := .statics 8 },
  { cls := 20, slots := #[.long 0, .int 0, .null, .null, .ref 8, .null, .null, .null, .int 0, .int 0], vm := .statics 20 },
  { cls := 38, slots := #[.long 0, .int 0, .ref 9, .ref 10], vm := .statics 38 },
  { cls := 43, slots := #[.null, .null, .null], vm := .statics 43 },
  { cls := 48, slots := #[], vm := .mirror 38 },
  { cls := 48, slots := #[], vm := .mirror 41 },
  { cls := 48, slots := #[], vm := .mirror 42 },
  { cls := 55, slots := #[], vm := .none },
  { cls := 47, slots := #[.ref 7, .int 0], vm := .none },
  { cls := 55, slots := #[], vm := .none },
  { cls := 55, slots := #[], vm := .none }]
def classes : Array Class := #[k0, k1, k2, k3, k4, k5, k6, k7, k8, k9, k10, k11, k12, k13, k14, k15, k16, k17, k18, k19, k20, k21, k22, k23, k24, k25, k26, k27, k28, k29, k30, k31, k32, k33, k34, k35, k36, k37, k38, k39, k40, k41, k42, k43, k44, k45, k46, k47, k48, k49, k50, k51, k52, k53, k54, k55, k56, k57, k58]
def interned : List (Array UInt16 × Addr) := []
def slotsUsed : Nat := 26
def theMethod : MethodId := ⟨1, 1⟩
def args0 : Array Value := #[.int 5, .int 7, .int 9, .int 4]
def aboutOver (below : List Frame) : State where
  vm := { classes := classes, interned := interned.toArray }
  heap := heap
  slotsUsed := slotsUsed
  threads := #[{ frames := .invoking theMethod args0 :: below }]
def below0 : List Frame := [.native { method := ⟨0, 0⟩, args := #[] }]
def about1 : State := aboutOver below0
def p0 : Program := .bare "" "" ""
def e0 : Env := launch0.env 0 0 0
theorem w_frames : about1.frames = Frame.invoking theMethod args0 :: below0 := rfl
set_option maxRecDepth 65536 in
theorem w_args : argsFit about1.vm theMethod args0 = true := by decide +kernel
set_option maxRecDepth 65536 in
theorem w_heap : heapFits about1 = true := by decide +kernel
set_option maxRecDepth 65536 in
theorem w_runnable : about1.curStatus? = some .runnable := by decide +kernel
set_option maxRecDepth 65536 in
theorem w_alone : about1.alone = true := by decide +kernel
set_option maxRecDepth 65536 in
theorem w_named : about1.methodNamed? x = some theMethod := by decide +kernel
set_option maxRecDepth 65536 in
theorem w_hears : about1.hears theMethod below0 = true := by decide +kernel
set_option maxRecDepth 65536 in
theorem w_ripe : about1.ripe theMethod args0 below0 = true := by decide +kernel
theorem w_running : about1.status = .running := rfl
set_option maxRecDepth 65536 in
theorem w_room : about1.hasRoom e0.platform room_1 = true :=
  launch0.hasRoom_least _ room_1 (by decide +kernel) (by decide +kernel) (by decide +kernel) (by decide +kernel) (by decide +kernel) (by decide +kernel)
theorem allAtoms_all (ts : List Jvm.Cond) (a : Array Jvm.Value) (st : Jvm.State) : (allAtoms ts).before a st = ts.all (fun c => c.before a st) := by
  induction ts with
  | nil => rfl
  | cons c t ih =>
    show (Jvm.Cond.and c (allAtoms t)).before a st = _
    rw [Jvm.Cond.before_and, ih, List.all_cons]
def words1 : List Jvm.Cond := Jvm.Cond.code x code maxLocals ret :: tables_1
/-- a 'code' word, met by the world's own term for the bytes: nothing is compared byte by byte -/
theorem code_word {y : MethodName} {bytes : ByteArray} {mx : Nat} {rt : Option FieldType} {a : Array Value} {s : State} {m : MethodId} {meth : Method} {c : Code} (h1 : s.methodNamed? y = some m) (h2 : s.vm.method? m = some meth) (h3 : meth.code = some c) (h4 : c.code = bytes)
    (h5 : (c.maxLocals == mx && c.exceptionTable.isEmpty && decide (c.maxStack ≤ mostOperands) && decide (meth.sig.returnType = rt) && !meth.locks && decide (parseMethodDescriptor y.desc = some meth.sig)) = true) : (Jvm.Cond.code y bytes mx rt).before a s = true := by
  simp only [Bool.and_eq_true, beq_iff_eq, Bool.not_eq_true', decide_eq_true_eq] at h5
  obtain ⟨⟨⟨⟨⟨g1, g2⟩, g3⟩, g4⟩, g5⟩, g6⟩ := h5
  simp [Cond.before, Cond.holds, Cond.value, h1, h2, h3, h4, g1, g2, g3, g4, g5, g6]
def isCode : Jvm.Cond → Bool
  | .code _ _ _ _ => true
  | _ => false
theorem all_split {L : List Jvm.Cond} {P : Jvm.Cond → Bool} (h1 : L.all (fun c => isCode c || P c) = true) (h2 : ∀ c ∈ L.filter isCode, P c = true) : L.all P = true := by
  refine List.all_eq_true.mpr fun c hc => ?_
  have h := List.all_eq_true.mp h1 c hc
  rcases Bool.eq_false_or_eq_true (isCode c) with hi | hi
  · exact h2 c (List.mem_filter.mpr ⟨hc, hi⟩)
  · simpa [hi] using h
set_option maxRecDepth 65536 in
theorem w_c0 : (Jvm.Cond.code x code maxLocals ret).before args0 about1 = true := code_word (m := ⟨1, 1⟩) (meth := k1m1) (c := k1c1) (by decide +kernel) rfl rfl rfl (by decide +kernel)
set_option maxRecDepth 65536 in
theorem w_c1 : (Jvm.Cond.code ({ cls := "java/lang/String", name := "valueOf", desc := "(C)Ljava/lang/String;" } : Jvm.MethodName) jdk_42_method_139_code (1 : Nat) (Option.some (Jvm.ClassFile.FieldType.object "java/lang/String"))).before args0 about1 = true := code_word (m := ⟨8, 6⟩) (meth := k8m6) (c := k8c6) (by decide +kernel) rfl rfl rfl (by decide +kernel)
set_option maxRecDepth 65536 in
theorem w_c2 : (Jvm.Cond.code ({ cls := "java/lang/StringLatin1", name := "canEncode", desc := "(C)Z" } : Jvm.MethodName) jdk_43_method_3_code (1 : Nat) (Option.some Jvm.ClassFile.FieldType.boolean)).before args0 about1 = true := code_word (m := ⟨9, 1⟩) (meth := k9m1) (c := k9c1) (by decide +kernel) rfl rfl rfl (by decide +kernel)
set_option maxRecDepth 65536 in
theorem w_c3 : (Jvm.Cond.code ({ cls := "java/lang/StringLatin1", name := "toBytes", desc := "(C)[B" } : Jvm.MethodName) jdk_43_method_46_code (1 : Nat) (Option.some (Jvm.ClassFile.FieldType.array Jvm.ClassFile.FieldType.byte))).before args0 about1 = true := code_word (m := ⟨9, 3⟩) (meth := k9m3) (c := k9c3) (by decide +kernel) rfl rfl rfl (by decide +kernel)
set_option maxRecDepth 65536 in
theorem w_c4 : (Jvm.Cond.code ({ cls := "java/lang/String", name := "<init>", desc := "([BB)V" } : Jvm.MethodName) jdk_42_method_151_code (3 : Nat) (Option.none : Option Jvm.ClassFile.FieldType)).before args0 about1 = true := code_word (m := ⟨8, 10⟩) (meth := k8m10) (c := k8c10) (by decide +kernel) rfl rfl rfl (by decide +kernel)
set_option maxRecDepth 65536 in
theorem w_c5 : (Jvm.Cond.code ({ cls := "java/lang/Object", name := "<init>", desc := "()V" } : Jvm.MethodName) object_method_1_code (1 : Nat) (Option.none : Option Jvm.ClassFile.FieldType)).before args0 about1 = true := code_word (m := ⟨0, 0⟩) (meth := k0m0) (c := k0c0) (by decide +kernel) rfl rfl rfl (by decide +kernel)
set_option maxRecDepth 65536 in
theorem w_c6 : (Jvm.Cond.code ({ cls := "com/example/mandoline/mandoline/Variable", name := "<init>", desc := "(Ljava/lang/String;Lcom/example/mandoline/mandoline/ClangNode;)V" } : Jvm.MethodName) prog_50_method_1_code (3 : Nat) (Option.none : Option Jvm.ClassFile.FieldType)).before args0 about1 = true := code_word (m := ⟨2, 0⟩) (meth := k2m0) (c := k2c0) (by decide +kernel) rfl rfl rfl (by decide +kernel)
set_option maxRecDepth 65536 in
theorem w_c7 : (Jvm.Cond.code ({ cls := "com/example/mandoline/mandoline/Variable", name := "<init>", desc := "(Ljava/lang/String;Lcom/example/mandoline/mandoline/ClangNode;Ljava/lang/String;Lcom/example/mandoline/mandoline/Variable;)V" } : Jvm.MethodName) prog_50_method_3_code (5 : Nat) (Option.none : Option Jvm.ClassFile.FieldType)).before args0 about1 = true := code_word (m := ⟨2, 1⟩) (meth := k2m1) (c := k2c1) (by decide +kernel) rfl rfl rfl (by decide +kernel)
set_option maxRecDepth 65536 in
theorem w_c8 : (Jvm.Cond.code ({ cls := "java/util/LinkedHashMap", name := "<init>", desc := "()V" } : Jvm.MethodName) jdk_94_method_16_code (1 : Nat) (Option.none : Option Jvm.ClassFile.FieldType)).before args0 about1 = true := code_word (m := ⟨15, 3⟩) (meth := k15m3) (c := k15c3) (by decide +kernel) rfl rfl rfl (by decide +kernel)
set_option maxRecDepth 65536 in
theorem w_c9 : (Jvm.Cond.code ({ cls := "java/util/HashMap", name := "<init>", desc := "()V" } : Jvm.MethodName) jdk_69_method_7_code (1 : Nat) (Option.none : Option Jvm.ClassFile.FieldType)).before args0 about1 = true := code_word (m := ⟨13, 1⟩) (meth := k13m1) (c := k13c1) (by decide +kernel) rfl rfl rfl (by decide +kernel)
set_option maxRecDepth 65536 in
theorem w_c10 : (Jvm.Cond.code ({ cls := "java/util/AbstractMap", name := "<init>", desc := "()V" } : Jvm.MethodName) jdk_71_method_1_code (1 : Nat) (Option.none : Option Jvm.ClassFile.FieldType)).before args0 about1 = true := code_word (m := ⟨11, 0⟩) (meth := k11m0) (c := k11c0) (by decide +kernel) rfl rfl rfl (by decide +kernel)
set_option maxRecDepth 65536 in
theorem w_c11 : (Jvm.Cond.code ({ cls := "java/util/List", name := "of", desc := "()Ljava/util/List;" } : Jvm.MethodName) jdk_40_method_36_code (0 : Nat) (Option.some (Jvm.ClassFile.FieldType.object "java/util/List"))).before args0 about1 = true := code_word (m := ⟨19, 0⟩) (meth := k19m0) (c := k19c0) (by decide +kernel) rfl rfl rfl (by decide +kernel)
set_option maxRecDepth 65536 in
theorem w_c12 : (Jvm.Cond.code ({ cls := "com/example/mandoline/mandoline/Place$Field", name := "<init>", desc := "(Ljava/lang/String;Ljava/lang/String;)V" } : Jvm.MethodName) prog_39_method_1_code (3 : Nat) (Option.none : Option Jvm.ClassFile.FieldType)).before args0 about1 = true := code_word (m := ⟨22, 0⟩) (meth := k22m0) (c := k22c0) (by decide +kernel) rfl rfl rfl (by decide +kernel)
set_option maxRecDepth 65536 in
theorem w_c13 : (Jvm.Cond.code ({ cls := "java/lang/Record", name := "<init>", desc := "()V" } : Jvm.MethodName) jdk_30_method_1_code (1 : Nat) (Option.none : Option Jvm.ClassFile.FieldType)).before args0 about1 = true := code_word (m := ⟨21, 0⟩) (meth := k21m0) (c := k21c0) (by decide +kernel) rfl rfl rfl (by decide +kernel)
set_option maxRecDepth 65536 in
theorem w_c14 : (Jvm.Cond.code ({ cls := "com/example/mandoline/mandoline/Variable", name := "addField", desc := "(Lcom/example/mandoline/mandoline/Place$Field;)Lcom/example/mandoline/mandoline/Variable;" } : Jvm.MethodName) prog_50_method_12_code (2 : Nat) (Option.some (Jvm.ClassFile.FieldType.object "com/example/mandoline/mandoline/Variable"))).before args0 about1 = true := code_word (m := ⟨2, 3⟩) (meth := k2m3) (c := k2c3) (by decide +kernel) rfl rfl rfl (by decide +kernel)
set_option maxRecDepth 65536 in
theorem w_c15 : (Jvm.Cond.code ({ cls := "com/example/mandoline/mandoline/Place$Field", name := "key", desc := "()Ljava/lang/String;" } : Jvm.MethodName) prog_39_method_5_code (1 : Nat) (Option.some (Jvm.ClassFile.FieldType.object "java/lang/String"))).before args0 about1 = true := code_word (m := ⟨22, 1⟩) (meth := k22m1) (c := k22c1) (by decide +kernel) rfl rfl rfl (by decide +kernel)
set_option maxRecDepth 65536 in
theorem w_c16 : (Jvm.Cond.code ({ cls := "java/util/HashMap", name := "computeIfAbsent", desc := "(Ljava/lang/Object;Ljava/util/function/Function;)Ljava/lang/Object;" } : Jvm.MethodName) jdk_69_method_35_code (13 : Nat) (Option.some (Jvm.ClassFile.FieldType.object "java/lang/Object"))).before args0 about1 = true := code_word (m := ⟨13, 3⟩) (meth := k13m3) (c := k13c3) (by decide +kernel) rfl rfl rfl (by decide +kernel)
set_option maxRecDepth 65536 in
theorem w_c17 : (Jvm.Cond.code ({ cls := "java/util/HashMap", name := "hash", desc := "(Ljava/lang/Object;)I" } : Jvm.MethodName) jdk_69_method_1_code (2 : Nat) (Option.some Jvm.ClassFile.FieldType.int)).before args0 about1 = true := code_word (m := ⟨13, 0⟩) (meth := k13m0) (c := k13c0) (by decide +kernel) rfl rfl rfl (by decide +kernel)
set_option maxRecDepth 65536 in
theorem w_c18 : (Jvm.Cond.code ({ cls := "java/lang/String", name := "hashCode", desc := "()I" } : Jvm.MethodName) jdk_42_method_78_code (2 : Nat) (Option.some Jvm.ClassFile.FieldType.int)).before args0 about1 = true := code_word (m := ⟨8, 5⟩) (meth := k8m5) (c := k8c5) (by decide +kernel) rfl rfl rfl (by decide +kernel)
set_option maxRecDepth 65536 in
theorem w_c19 : (Jvm.Cond.code ({ cls := "java/lang/String", name := "isLatin1", desc := "()Z" } : Jvm.MethodName) jdk_42_method_154_code (1 : Nat) (Option.some Jvm.ClassFile.FieldType.boolean)).before args0 about1 = true := code_word (m := ⟨8, 12⟩) (meth := k8m12) (c := k8c12) (by decide +kernel) rfl rfl rfl (by decide +kernel)
set_option maxRecDepth 65536 in
theorem w_c20 : (Jvm.Cond.code ({ cls := "java/lang/StringLatin1", name := "hashCode", desc := "([B)I" } : Jvm.MethodName) jdk_43_method_21_code (1 : Nat) (Option.some Jvm.ClassFile.FieldType.int)).before args0 about1 = true := code_word (m := ⟨9, 2⟩) (meth := k9m2) (c := k9c2) (by decide +kernel) rfl rfl rfl (by decide +kernel)
set_option maxRecDepth 65536 in
theorem w_c21 : (Jvm.Cond.code ({ cls := "java/util/HashMap", name := "resize", desc := "()[Ljava/util/HashMap$Node;" } : Jvm.MethodName) jdk_69_method_17_code (14 : Nat) (Option.some (Jvm.ClassFile.FieldType.array (Jvm.ClassFile.FieldType.object "java/util/HashMap$Node")))).before args0 about1 = true := code_word (m := ⟨13, 2⟩) (meth := k13m2) (c := k13c2) (by decide +kernel) rfl rfl rfl (by decide +kernel)
set_option maxRecDepth 65536 in
theorem w_c22 : (Jvm.Cond.code ({ cls := "com/example/mandoline/mandoline/Variable", name := "lambda$addField$0", desc := "(Lcom/example/mandoline/mandoline/Place$Field;Ljava/lang/String;)Lcom/example/mandoline/mandoline/Variable;" } : Jvm.MethodName) prog_50_method_15_code (3 : Nat) (Option.some (Jvm.ClassFile.FieldType.object "com/example/mandoline/mandoline/Variable"))).before args0 about1 = true := code_word (m := ⟨2, 4⟩) (meth := k2m4) (c := k2c4) (by decide +kernel) rfl rfl rfl (by decide +kernel)
set_option maxRecDepth 65536 in
theorem w_c23 : (Jvm.Cond.code ({ cls := "com/example/mandoline/mandoline/Place$Field", name := "name", desc := "()Ljava/lang/String;" } : Jvm.MethodName) prog_39_method_6_code (1 : Nat) (Option.some (Jvm.ClassFile.FieldType.object "java/lang/String"))).before args0 about1 = true := code_word (m := ⟨22, 2⟩) (meth := k22m2) (c := k22c2) (by decide +kernel) rfl rfl rfl (by decide +kernel)
set_option maxRecDepth 65536 in
theorem w_c24 : (Jvm.Cond.code ({ cls := "java/lang/String", name := "isEmpty", desc := "()Z" } : Jvm.MethodName) jdk_42_method_55_code (1 : Nat) (Option.some Jvm.ClassFile.FieldType.boolean)).before args0 about1 = true := code_word (m := ⟨8, 4⟩) (meth := k8m4) (c := k8c4) (by decide +kernel) rfl rfl rfl (by decide +kernel)
set_option maxRecDepth 65536 in
theorem w_c25 : (Jvm.Cond.code ({ cls := "java/lang/StringBuilder", name := "<init>", desc := "()V" } : Jvm.MethodName) jdk_67_method_1_code (1 : Nat) (Option.none : Option Jvm.ClassFile.FieldType)).before args0 about1 = true := code_word (m := ⟨28, 0⟩) (meth := k28m0) (c := k28c0) (by decide +kernel) rfl rfl rfl (by decide +kernel)
set_option maxRecDepth 65536 in
theorem w_c26 : (Jvm.Cond.code ({ cls := "java/lang/AbstractStringBuilder", name := "<init>", desc := "(I)V" } : Jvm.MethodName) jdk_68_method_2_code (2 : Nat) (Option.none : Option Jvm.ClassFile.FieldType)).before args0 about1 = true := code_word (m := ⟨27, 1⟩) (meth := k27m1) (c := k27c1) (by decide +kernel) rfl rfl rfl (by decide +kernel)
set_option maxRecDepth 65536 in
theorem w_c27 : (Jvm.Cond.code ({ cls := "java/lang/StringBuilder", name := "append", desc := "(Ljava/lang/String;)Ljava/lang/StringBuilder;" } : Jvm.MethodName) jdk_67_method_7_code (2 : Nat) (Option.some (Jvm.ClassFile.FieldType.object "java/lang/StringBuilder"))).before args0 about1 = true := code_word (m := ⟨28, 1⟩) (meth := k28m1) (c := k28c1) (by decide +kernel) rfl rfl rfl (by decide +kernel)
set_option maxRecDepth 65536 in
theorem w_c28 : (Jvm.Cond.code ({ cls := "java/lang/AbstractStringBuilder", name := "append", desc := "(Ljava/lang/String;)Ljava/lang/AbstractStringBuilder;" } : Jvm.MethodName) jdk_68_method_22_code (3 : Nat) (Option.some (Jvm.ClassFile.FieldType.object "java/lang/AbstractStringBuilder"))).before args0 about1 = true := code_word (m := ⟨27, 4⟩) (meth := k27m4) (c := k27c4) (by decide +kernel) rfl rfl rfl (by decide +kernel)
set_option maxRecDepth 65536 in
theorem w_c29 : (Jvm.Cond.code ({ cls := "java/lang/String", name := "length", desc := "()I" } : Jvm.MethodName) jdk_42_method_54_code (1 : Nat) (Option.some Jvm.ClassFile.FieldType.int)).before args0 about1 = true := code_word (m := ⟨8, 3⟩) (meth := k8m3) (c := k8c3) (by decide +kernel) rfl rfl rfl (by decide +kernel)
set_option maxRecDepth 65536 in
theorem w_c30 : (Jvm.Cond.code ({ cls := "java/lang/String", name := "coder", desc := "()B" } : Jvm.MethodName) jdk_42_method_152_code (1 : Nat) (Option.some Jvm.ClassFile.FieldType.byte)).before args0 about1 = true := code_word (m := ⟨8, 11⟩) (meth := k8m11) (c := k8c11) (by decide +kernel) rfl rfl rfl (by decide +kernel)
set_option maxRecDepth 65536 in
theorem w_c31 : (Jvm.Cond.code ({ cls := "java/lang/AbstractStringBuilder", name := "ensureCapacityInternal", desc := "(I)V" } : Jvm.MethodName) jdk_68_method_9_code (3 : Nat) (Option.none : Option Jvm.ClassFile.FieldType)).before args0 about1 = true := code_word (m := ⟨27, 3⟩) (meth := k27m3) (c := k27c3) (by decide +kernel) rfl rfl rfl (by decide +kernel)
set_option maxRecDepth 65536 in
theorem w_c32 : (Jvm.Cond.code ({ cls := "java/lang/AbstractStringBuilder", name := "putStringAt", desc := "(ILjava/lang/String;)V" } : Jvm.MethodName) jdk_68_method_73_code (3 : Nat) (Option.none : Option Jvm.ClassFile.FieldType)).before args0 about1 = true := code_word (m := ⟨27, 8⟩) (meth := k27m8) (c := k27c8) (by decide +kernel) rfl rfl rfl (by decide +kernel)
set_option maxRecDepth 65536 in
theorem w_c33 : (Jvm.Cond.code ({ cls := "java/lang/AbstractStringBuilder", name := "inflateIfNeededFor", desc := "(Ljava/lang/String;)V" } : Jvm.MethodName) jdk_68_method_71_code (2 : Nat) (Option.none : Option Jvm.ClassFile.FieldType)).before args0 about1 = true := code_word (m := ⟨27, 7⟩) (meth := k27m7) (c := k27c7) (by decide +kernel) rfl rfl rfl (by decide +kernel)
set_option maxRecDepth 65536 in
theorem w_c34 : (Jvm.Cond.code ({ cls := "java/lang/String", name := "getBytes", desc := "([BIB)V" } : Jvm.MethodName) jdk_42_method_147_code (4 : Nat) (Option.none : Option Jvm.ClassFile.FieldType)).before args0 about1 = true := code_word (m := ⟨8, 7⟩) (meth := k8m7) (c := k8c7) (by decide +kernel) rfl rfl rfl (by decide +kernel)
set_option maxRecDepth 65536 in
theorem w_c35 : (Jvm.Cond.code ({ cls := "java/lang/StringBuilder", name := "toString", desc := "()Ljava/lang/String;" } : Jvm.MethodName) jdk_67_method_42_code (1 : Nat) (Option.some (Jvm.ClassFile.FieldType.object "java/lang/String"))).before args0 about1 = true := code_word (m := ⟨28, 2⟩) (meth := k28m2) (c := k28c2) (by decide +kernel) rfl rfl rfl (by decide +kernel)
set_option maxRecDepth 65536 in
theorem w_c36 : (Jvm.Cond.code ({ cls := "java/lang/String", name := "<init>", desc := "(Ljava/lang/StringBuilder;)V" } : Jvm.MethodName) jdk_42_method_53_code (2 : Nat) (Option.none : Option Jvm.ClassFile.FieldType)).before args0 about1 = true := code_word (m := ⟨8, 2⟩) (meth := k8m2) (c := k8c2) (by decide +kernel) rfl rfl rfl (by decide +kernel)
set_option maxRecDepth 65536 in
theorem w_c37 : (Jvm.Cond.code ({ cls := "java/lang/String", name := "<init>", desc := "(Ljava/lang/AbstractStringBuilder;Ljava/lang/Void;)V" } : Jvm.MethodName) jdk_42_method_150_code (5 : Nat) (Option.none : Option Jvm.ClassFile.FieldType)).before args0 about1 = true := code_word (m := ⟨8, 9⟩) (meth := k8m9) (c := k8c9) (by decide +kernel) rfl rfl rfl (by decide +kernel)
set_option maxRecDepth 65536 in
theorem w_c38 : (Jvm.Cond.code ({ cls := "java/lang/AbstractStringBuilder", name := "getValue", desc := "()[B" } : Jvm.MethodName) jdk_68_method_64_code (1 : Nat) (Option.some (Jvm.ClassFile.FieldType.array Jvm.ClassFile.FieldType.byte))).before args0 about1 = true := code_word (m := ⟨27, 5⟩) (meth := k27m5) (c := k27c5) (by decide +kernel) rfl rfl rfl (by decide +kernel)
set_option maxRecDepth 65536 in
theorem w_c39 : (Jvm.Cond.code ({ cls := "java/lang/StringBuilder", name := "length", desc := "()I" } : Jvm.MethodName) jdk_67_method_93_code (1 : Nat) (Option.some Jvm.ClassFile.FieldType.int)).before args0 about1 = true := code_word (m := ⟨28, 3⟩) (meth := k28m3) (c := k28c3) (by decide +kernel) rfl rfl rfl (by decide +kernel)
set_option maxRecDepth 65536 in
theorem w_c40 : (Jvm.Cond.code ({ cls := "java/lang/AbstractStringBuilder", name := "length", desc := "()I" } : Jvm.MethodName) jdk_68_method_6_code (1 : Nat) (Option.some Jvm.ClassFile.FieldType.int)).before args0 about1 = true := code_word (m := ⟨27, 2⟩) (meth := k27m2) (c := k27c2) (by decide +kernel) rfl rfl rfl (by decide +kernel)
set_option maxRecDepth 65536 in
theorem w_c41 : (Jvm.Cond.code ({ cls := "java/lang/AbstractStringBuilder", name := "isLatin1", desc := "()Z" } : Jvm.MethodName) jdk_68_method_68_code (1 : Nat) (Option.some Jvm.ClassFile.FieldType.boolean)).before args0 about1 = true := code_word (m := ⟨27, 6⟩) (meth := k27m6) (c := k27c6) (by decide +kernel) rfl rfl rfl (by decide +kernel)
set_option maxRecDepth 65536 in
theorem w_c42 : (Jvm.Cond.code ({ cls := "java/util/Arrays", name := "copyOfRange", desc := "([BII)[B" } : Jvm.MethodName) jdk_65_method_132_code (3 : Nat) (Option.some (Jvm.ClassFile.FieldType.array Jvm.ClassFile.FieldType.byte))).before args0 about1 = true := code_word (m := ⟨30, 2⟩) (meth := k30m2) (c := k30c2) (by decide +kernel) rfl rfl rfl (by decide +kernel)
set_option maxRecDepth 65536 in
theorem w_c43 : (Jvm.Cond.code ({ cls := "java/util/Arrays", name := "copyOfRangeByte", desc := "([BII)[B" } : Jvm.MethodName) jdk_65_method_133_code (5 : Nat) (Option.some (Jvm.ClassFile.FieldType.array Jvm.ClassFile.FieldType.byte))).before args0 about1 = true := code_word (m := ⟨30, 3⟩) (meth := k30m3) (c := k30c3) (by decide +kernel) rfl rfl rfl (by decide +kernel)
set_option maxRecDepth 65536 in
theorem w_c44 : (Jvm.Cond.code ({ cls := "java/util/Arrays", name := "checkLength", desc := "(II)V" } : Jvm.MethodName) jdk_65_method_131_code (2 : Nat) (Option.none : Option Jvm.ClassFile.FieldType)).before args0 about1 = true := code_word (m := ⟨30, 1⟩) (meth := k30m1) (c := k30c1) (by decide +kernel) rfl rfl rfl (by decide +kernel)
set_option maxRecDepth 65536 in
theorem w_c45 : (Jvm.Cond.code ({ cls := "java/lang/Math", name := "min", desc := "(II)I" } : Jvm.MethodName) jdk_29_method_69_code (2 : Nat) (Option.some Jvm.ClassFile.FieldType.int)).before args0 about1 = true := code_word (m := ⟨31, 1⟩) (meth := k31m1) (c := k31c1) (by decide +kernel) rfl rfl rfl (by decide +kernel)
set_option maxRecDepth 65536 in
theorem w_c46 : (Jvm.Cond.code ({ cls := "java/util/LinkedHashMap", name := "newNode", desc := "(ILjava/lang/Object;Ljava/lang/Object;Ljava/util/HashMap$Node;)Ljava/util/HashMap$Node;" } : Jvm.MethodName) jdk_94_method_4_code (6 : Nat) (Option.some (Jvm.ClassFile.FieldType.object "java/util/HashMap$Node"))).before args0 about1 = true := code_word (m := ⟨15, 1⟩) (meth := k15m1) (c := k15c1) (by decide +kernel) rfl rfl rfl (by decide +kernel)
set_option maxRecDepth 65536 in
theorem w_c47 : (Jvm.Cond.code ({ cls := "java/util/LinkedHashMap$Entry", name := "<init>", desc := "(ILjava/lang/Object;Ljava/lang/Object;Ljava/util/HashMap$Node;)V" } : Jvm.MethodName) jdk_83_method_1_code (5 : Nat) (Option.none : Option Jvm.ClassFile.FieldType)).before args0 about1 = true := code_word (m := ⟨32, 0⟩) (meth := k32m0) (c := k32c0) (by decide +kernel) rfl rfl rfl (by decide +kernel)
set_option maxRecDepth 65536 in
theorem w_c48 : (Jvm.Cond.code ({ cls := "java/util/HashMap$Node", name := "<init>", desc := "(ILjava/lang/Object;Ljava/lang/Object;Ljava/util/HashMap$Node;)V" } : Jvm.MethodName) jdk_70_method_1_code (5 : Nat) (Option.none : Option Jvm.ClassFile.FieldType)).before args0 about1 = true := code_word (m := ⟨25, 0⟩) (meth := k25m0) (c := k25c0) (by decide +kernel) rfl rfl rfl (by decide +kernel)
set_option maxRecDepth 65536 in
theorem w_c49 : (Jvm.Cond.code ({ cls := "java/util/LinkedHashMap", name := "linkNodeAtEnd", desc := "(Ljava/util/LinkedHashMap$Entry;)V" } : Jvm.MethodName) jdk_94_method_1_code (3 : Nat) (Option.none : Option Jvm.ClassFile.FieldType)).before args0 about1 = true := code_word (m := ⟨15, 0⟩) (meth := k15m0) (c := k15c0) (by decide +kernel) rfl rfl rfl (by decide +kernel)
set_option maxRecDepth 65536 in
theorem w_c50 : (Jvm.Cond.code ({ cls := "java/util/LinkedHashMap", name := "afterNodeInsertion", desc := "(Z)V" } : Jvm.MethodName) jdk_94_method_9_code (4 : Nat) (Option.none : Option Jvm.ClassFile.FieldType)).before args0 about1 = true := code_word (m := ⟨15, 2⟩) (meth := k15m2) (c := k15c2) (by decide +kernel) rfl rfl rfl (by decide +kernel)
set_option maxRecDepth 65536 in
theorem w_c51 : (Jvm.Cond.code ({ cls := "java/util/LinkedHashMap", name := "removeEldestEntry", desc := "(Ljava/util/Map$Entry;)Z" } : Jvm.MethodName) jdk_94_method_23_code (2 : Nat) (Option.some Jvm.ClassFile.FieldType.boolean)).before args0 about1 = true := code_word (m := ⟨15, 4⟩) (meth := k15m4) (c := k15c4) (by decide +kernel) rfl rfl rfl (by decide +kernel)
set_option maxRecDepth 65536 in
theorem w_c52 : (Jvm.Cond.code ({ cls := "com/example/mandoline/mandoline/Variable", name := "declaringStatement", desc := "()Lcom/example/mandoline/mandoline/ClangNode;" } : Jvm.MethodName) prog_50_method_5_code (1 : Nat) (Option.some (Jvm.ClassFile.FieldType.object "com/example/mandoline/mandoline/ClangNode"))).before args0 about1 = true := code_word (m := ⟨2, 2⟩) (meth := k2m2) (c := k2c2) (by decide +kernel) rfl rfl rfl (by decide +kernel)
set_option maxRecDepth 65536 in
theorem w_c53 : (Jvm.Cond.code ({ cls := "java/lang/String", name := "<init>", desc := "([C)V" } : Jvm.MethodName) jdk_42_method_3_code (2 : Nat) (Option.none : Option Jvm.ClassFile.FieldType)).before args0 about1 = true := code_word (m := ⟨8, 1⟩) (meth := k8m1) (c := k8c1) (by decide +kernel) rfl rfl rfl (by decide +kernel)
set_option maxRecDepth 65536 in
theorem w_c54 : (Jvm.Cond.code ({ cls := "java/lang/String", name := "<init>", desc := "([CIILjava/lang/Void;)V" } : Jvm.MethodName) jdk_42_method_149_code (6 : Nat) (Option.none : Option Jvm.ClassFile.FieldType)).before args0 about1 = true := code_word (m := ⟨8, 8⟩) (meth := k8m8) (c := k8c8) (by decide +kernel) rfl rfl rfl (by decide +kernel)
set_option maxRecDepth 65536 in
theorem w_c55 : (Jvm.Cond.code ({ cls := "java/lang/StringUTF16", name := "compress", desc := "([CII)[B" } : Jvm.MethodName) jdk_52_method_16_code (6 : Nat) (Option.some (Jvm.ClassFile.FieldType.array Jvm.ClassFile.FieldType.byte))).before args0 about1 = true := code_word (m := ⟨34, 2⟩) (meth := k34m2) (c := k34c2) (by decide +kernel) rfl rfl rfl (by decide +kernel)
set_option maxRecDepth 65536 in
theorem w_c56 : (Jvm.Cond.code ({ cls := "java/lang/StringUTF16", name := "compress", desc := "([CI[BII)I" } : Jvm.MethodName) jdk_52_method_21_code (7 : Nat) (Option.some Jvm.ClassFile.FieldType.int)).before args0 about1 = true := code_word (m := ⟨34, 3⟩) (meth := k34m3) (c := k34c3) (by decide +kernel) rfl rfl rfl (by decide +kernel)
set_option maxRecDepth 65536 in
theorem w_c57 : (Jvm.Cond.code ({ cls := "java/lang/StringUTF16", name := "coderFromArrayLen", desc := "([BI)B" } : Jvm.MethodName) jdk_52_method_15_code (2 : Nat) (Option.some Jvm.ClassFile.FieldType.byte)).before args0 about1 = true := code_word (m := ⟨34, 1⟩) (meth := k34m1) (c := k34c1) (by decide +kernel) rfl rfl rfl (by decide +kernel)
set_option maxRecDepth 65536 in
theorem w_c58 : (Jvm.Cond.code ({ cls := "java/util/ArrayList", name := "<init>", desc := "()V" } : Jvm.MethodName) jdk_38_method_2_code (1 : Nat) (Option.none : Option Jvm.ClassFile.FieldType)).before args0 about1 = true := code_word (m := ⟨38, 0⟩) (meth := k38m0) (c := k38c0) (by decide +kernel) rfl rfl rfl (by decide +kernel)
set_option maxRecDepth 65536 in
theorem w_c59 : (Jvm.Cond.code ({ cls := "java/util/AbstractList", name := "<init>", desc := "()V" } : Jvm.MethodName) jdk_39_method_1_code (1 : Nat) (Option.none : Option Jvm.ClassFile.FieldType)).before args0 about1 = true := code_word (m := ⟨36, 0⟩) (meth := k36m0) (c := k36c0) (by decide +kernel) rfl rfl rfl (by decide +kernel)
set_option maxRecDepth 65536 in
theorem w_c60 : (Jvm.Cond.code ({ cls := "java/util/AbstractCollection", name := "<init>", desc := "()V" } : Jvm.MethodName) jdk_22_method_1_code (1 : Nat) (Option.none : Option Jvm.ClassFile.FieldType)).before args0 about1 = true := code_word (m := ⟨35, 0⟩) (meth := k35m0) (c := k35c0) (by decide +kernel) rfl rfl rfl (by decide +kernel)
set_option maxRecDepth 65536 in
theorem w_c61 : (Jvm.Cond.code ({ cls := "com/example/mandoline/mandoline/ClangNode", name := "<init>", desc := "(Ljava/lang/String;[Ljava/lang/String;Lcom/example/mandoline/mandoline/ClangLocation;Lcom/example/mandoline/mandoline/ClangLocation;Lcom/example/mandoline/mandoline/ClangLocation;Ljava/util/List;)V" } : Jvm.MethodName) prog_9_method_1_code (7 : Nat) (Option.none : Option Jvm.ClassFile.FieldType)).before args0 about1 = true := code_word (m := ⟨33, 0⟩) (meth := k33m0) (c := k33c0) (by decide +kernel) rfl rfl rfl (by decide +kernel)
set_option maxRecDepth 65536 in
theorem w_c62 : (Jvm.Cond.code ({ cls := "java/util/Collections", name := "unmodifiableList", desc := "(Ljava/util/List;)Ljava/util/List;" } : Jvm.MethodName) jdk_79_method_35_code (1 : Nat) (Option.some (Jvm.ClassFile.FieldType.object "java/util/List"))).before args0 about1 = true := code_word (m := ⟨39, 1⟩) (meth := k39m1) (c := k39c1) (by decide +kernel) rfl rfl rfl (by decide +kernel)
set_option maxRecDepth 65536 in
theorem w_c63 : (Jvm.Cond.code ({ cls := "java/util/Collections$UnmodifiableRandomAccessList", name := "<init>", desc := "(Ljava/util/List;)V" } : Jvm.MethodName) jdk_121_method_1_code (2 : Nat) (Option.none : Option Jvm.ClassFile.FieldType)).before args0 about1 = true := code_word (m := ⟨42, 0⟩) (meth := k42m0) (c := k42c0) (by decide +kernel) rfl rfl rfl (by decide +kernel)
set_option maxRecDepth 65536 in
theorem w_c64 : (Jvm.Cond.code ({ cls := "java/util/Collections$UnmodifiableList", name := "<init>", desc := "(Ljava/util/List;)V" } : Jvm.MethodName) jdk_120_method_1_code (2 : Nat) (Option.none : Option Jvm.ClassFile.FieldType)).before args0 about1 = true := code_word (m := ⟨41, 0⟩) (meth := k41m0) (c := k41c0) (by decide +kernel) rfl rfl rfl (by decide +kernel)
set_option maxRecDepth 65536 in
theorem w_c65 : (Jvm.Cond.code ({ cls := "java/util/Collections$UnmodifiableCollection", name := "<init>", desc := "(Ljava/util/Collection;)V" } : Jvm.MethodName) jdk_119_method_1_code (2 : Nat) (Option.none : Option Jvm.ClassFile.FieldType)).before args0 about1 = true := code_word (m := ⟨40, 0⟩) (meth := k40m0) (c := k40c0) (by decide +kernel) rfl rfl rfl (by decide +kernel)
def codes1 : List Jvm.Cond := [Jvm.Cond.code x code maxLocals ret, Jvm.Cond.code ({ cls := "java/lang/String", name := "valueOf", desc := "(C)Ljava/lang/String;" } : Jvm.MethodName) jdk_42_method_139_code (1 : Nat) (Option.some (Jvm.ClassFile.FieldType.object "java/lang/String")), Jvm.Cond.code ({ cls := "java/lang/StringLatin1", name := "canEncode", desc := "(C)Z" } : Jvm.MethodName) jdk_43_method_3_code (1 : Nat) (Option.some Jvm.ClassFile.FieldType.boolean), Jvm.Cond.code ({ cls := "java/lang/StringLatin1", name := "toBytes", desc := "(C)[B" } : Jvm.MethodName) jdk_43_method_46_code (1 : Nat) (Option.some (Jvm.ClassFile.FieldType.array Jvm.ClassFile.FieldType.byte)), Jvm.Cond.code ({ cls := "java/lang/String", name := "<init>", desc := "([BB)V" } : Jvm.MethodName) jdk_42_method_151_code (3 : Nat) (Option.none : Option Jvm.ClassFile.FieldType), Jvm.Cond.code ({ cls := "java/lang/Object", name := "<init>", desc := "()V" } : Jvm.MethodName) object_method_1_code (1 : Nat) (Option.none : Option Jvm.ClassFile.FieldType), Jvm.Cond.code ({ cls := "com/example/mandoline/mandoline/Variable", name := "<init>", desc := "(Ljava/lang/String;Lcom/example/mandoline/mandoline/ClangNode;)V" } : Jvm.MethodName) prog_50_method_1_code (3 : Nat) (Option.none : Option Jvm.ClassFile.FieldType), Jvm.Cond.code ({ cls := "com/example/mandoline/mandoline/Variable", name := "<init>", desc := "(Ljava/lang/String;Lcom/example/mandoline/mandoline/ClangNode;Ljava/lang/String;Lcom/example/mandoline/mandoline/Variable;)V" } : Jvm.MethodName) prog_50_method_3_code (5 : Nat) (Option.none : Option Jvm.ClassFile.FieldType), Jvm.Cond.code ({ cls := "java/util/LinkedHashMap", name := "<init>", desc := "()V" } : Jvm.MethodName) jdk_94_method_16_code (1 : Nat) (Option.none : Option Jvm.ClassFile.FieldType), Jvm.Cond.code ({ cls := "java/util/HashMap", name := "<init>", desc := "()V" } : Jvm.MethodName) jdk_69_method_7_code (1 : Nat) (Option.none : Option Jvm.ClassFile.FieldType), Jvm.Cond.code ({ cls := "java/util/AbstractMap", name := "<init>", desc := "()V" } : Jvm.MethodName) jdk_71_method_1_code (1 : Nat) (Option.none : Option Jvm.ClassFile.FieldType), Jvm.Cond.code ({ cls := "java/util/List", name := "of", desc := "()Ljava/util/List;" } : Jvm.MethodName) jdk_40_method_36_code (0 : Nat) (Option.some (Jvm.ClassFile.FieldType.object "java/util/List")), Jvm.Cond.code ({ cls := "com/example/mandoline/mandoline/Place$Field", name := "<init>", desc := "(Ljava/lang/String;Ljava/lang/String;)V" } : Jvm.MethodName) prog_39_method_1_code (3 : Nat) (Option.none : Option Jvm.ClassFile.FieldType), Jvm.Cond.code ({ cls := "java/lang/Record", name := "<init>", desc := "()V" } : Jvm.MethodName) jdk_30_method_1_code (1 : Nat) (Option.none : Option Jvm.ClassFile.FieldType), Jvm.Cond.code ({ cls := "com/example/mandoline/mandoline/Variable", name := "addField", desc := "(Lcom/example/mandoline/mandoline/Place$Field;)Lcom/example/mandoline/mandoline/Variable;" } : Jvm.MethodName) prog_50_method_12_code (2 : Nat) (Option.some (Jvm.ClassFile.FieldType.object "com/example/mandoline/mandoline/Variable")), Jvm.Cond.code ({ cls := "com/example/mandoline/mandoline/Place$Field", name := "key", desc := "()Ljava/lang/String;" } : Jvm.MethodName) prog_39_method_5_code (1 : Nat) (Option.some (Jvm.ClassFile.FieldType.object "java/lang/String")), Jvm.Cond.code ({ cls := "java/util/HashMap", name := "computeIfAbsent", desc := "(Ljava/lang/Object;Ljava/util/function/Function;)Ljava/lang/Object;" } : Jvm.MethodName) jdk_69_method_35_code (13 : Nat) (Option.some (Jvm.ClassFile.FieldType.object "java/lang/Object")), Jvm.Cond.code ({ cls := "java/util/HashMap", name := "hash", desc := "(Ljava/lang/Object;)I" } : Jvm.MethodName) jdk_69_method_1_code (2 : Nat) (Option.some Jvm.ClassFile.FieldType.int), Jvm.Cond.code ({ cls := "java/lang/String", name := "hashCode", desc := "()I" } : Jvm.MethodName) jdk_42_method_78_code (2 : Nat) (Option.some Jvm.ClassFile.FieldType.int), Jvm.Cond.code ({ cls := "java/lang/String", name := "isLatin1", desc := "()Z" } : Jvm.MethodName) jdk_42_method_154_code (1 : Nat) (Option.some Jvm.ClassFile.FieldType.boolean), Jvm.Cond.code ({ cls := "java/lang/StringLatin1", name := "hashCode", desc := "([B)I" } : Jvm.MethodName) jdk_43_method_21_code (1 : Nat) (Option.some Jvm.ClassFile.FieldType.int), Jvm.Cond.code ({ cls := "java/util/HashMap", name := "resize", desc := "()[Ljava/util/HashMap$Node;" } : Jvm.MethodName) jdk_69_method_17_code (14 : Nat) (Option.some (Jvm.ClassFile.FieldType.array (Jvm.ClassFile.FieldType.object "java/util/HashMap$Node"))), Jvm.Cond.code ({ cls := "com/example/mandoline/mandoline/Variable", name := "lambda$addField$0", desc := "(Lcom/example/mandoline/mandoline/Place$Field;Ljava/lang/String;)Lcom/example/mandoline/mandoline/Variable;" } : Jvm.MethodName) prog_50_method_15_code (3 : Nat) (Option.some (Jvm.ClassFile.FieldType.object "com/example/mandoline/mandoline/Variable")), Jvm.Cond.code ({ cls := "com/example/mandoline/mandoline/Place$Field", name := "name", desc := "()Ljava/lang/String;" } : Jvm.MethodName) prog_39_method_6_code (1 : Nat) (Option.some (Jvm.ClassFile.FieldType.object "java/lang/String")), Jvm.Cond.code ({ cls := "java/lang/String", name := "isEmpty", desc := "()Z" } : Jvm.MethodName) jdk_42_method_55_code (1 : Nat) (Option.some Jvm.ClassFile.FieldType.boolean), Jvm.Cond.code ({ cls := "java/lang/StringBuilder", name := "<init>", desc := "()V" } : Jvm.MethodName) jdk_67_method_1_code (1 : Nat) (Option.none : Option Jvm.ClassFile.FieldType), Jvm.Cond.code ({ cls := "java/lang/AbstractStringBuilder", name := "<init>", desc := "(I)V" } : Jvm.MethodName) jdk_68_method_2_code (2 : Nat) (Option.none : Option Jvm.ClassFile.FieldType), Jvm.Cond.code ({ cls := "java/lang/StringBuilder", name := "append", desc := "(Ljava/lang/String;)Ljava/lang/StringBuilder;" } : Jvm.MethodName) jdk_67_method_7_code (2 : Nat) (Option.some (Jvm.ClassFile.FieldType.object "java/lang/StringBuilder")), Jvm.Cond.code ({ cls := "java/lang/AbstractStringBuilder", name := "append", desc := "(Ljava/lang/String;)Ljava/lang/AbstractStringBuilder;" } : Jvm.MethodName) jdk_68_method_22_code (3 : Nat) (Option.some (Jvm.ClassFile.FieldType.object "java/lang/AbstractStringBuilder")), Jvm.Cond.code ({ cls := "java/lang/String", name := "length", desc := "()I" } : Jvm.MethodName) jdk_42_method_54_code (1 : Nat) (Option.some Jvm.ClassFile.FieldType.int), Jvm.Cond.code ({ cls := "java/lang/String", name := "coder", desc := "()B" } : Jvm.MethodName) jdk_42_method_152_code (1 : Nat) (Option.some Jvm.ClassFile.FieldType.byte), Jvm.Cond.code ({ cls := "java/lang/AbstractStringBuilder", name := "ensureCapacityInternal", desc := "(I)V" } : Jvm.MethodName) jdk_68_method_9_code (3 : Nat) (Option.none : Option Jvm.ClassFile.FieldType), Jvm.Cond.code ({ cls := "java/lang/AbstractStringBuilder", name := "putStringAt", desc := "(ILjava/lang/String;)V" } : Jvm.MethodName) jdk_68_method_73_code (3 : Nat) (Option.none : Option Jvm.ClassFile.FieldType), Jvm.Cond.code ({ cls := "java/lang/AbstractStringBuilder", name := "inflateIfNeededFor", desc := "(Ljava/lang/String;)V" } : Jvm.MethodName) jdk_68_method_71_code (2 : Nat) (Option.none : Option Jvm.ClassFile.FieldType), Jvm.Cond.code ({ cls := "java/lang/String", name := "getBytes", desc := "([BIB)V" } : Jvm.MethodName) jdk_42_method_147_code (4 : Nat) (Option.none : Option Jvm.ClassFile.FieldType), Jvm.Cond.code ({ cls := "java/lang/StringBuilder", name := "toString", desc := "()Ljava/lang/String;" } : Jvm.MethodName) jdk_67_method_42_code (1 : Nat) (Option.some (Jvm.ClassFile.FieldType.object "java/lang/String")), Jvm.Cond.code ({ cls := "java/lang/String", name := "<init>", desc := "(Ljava/lang/StringBuilder;)V" } : Jvm.MethodName) jdk_42_method_53_code (2 : Nat) (Option.none : Option Jvm.ClassFile.FieldType), Jvm.Cond.code ({ cls := "java/lang/String", name := "<init>", desc := "(Ljava/lang/AbstractStringBuilder;Ljava/lang/Void;)V" } : Jvm.MethodName) jdk_42_method_150_code (5 : Nat) (Option.none : Option Jvm.ClassFile.FieldType), Jvm.Cond.code ({ cls := "java/lang/AbstractStringBuilder", name := "getValue", desc := "()[B" } : Jvm.MethodName) jdk_68_method_64_code (1 : Nat) (Option.some (Jvm.ClassFile.FieldType.array Jvm.ClassFile.FieldType.byte)), Jvm.Cond.code ({ cls := "java/lang/StringBuilder", name := "length", desc := "()I" } : Jvm.MethodName) jdk_67_method_93_code (1 : Nat) (Option.some Jvm.ClassFile.FieldType.int), Jvm.Cond.code ({ cls := "java/lang/AbstractStringBuilder", name := "length", desc := "()I" } : Jvm.MethodName) jdk_68_method_6_code (1 : Nat) (Option.some Jvm.ClassFile.FieldType.int), Jvm.Cond.code ({ cls := "java/lang/AbstractStringBuilder", name := "isLatin1", desc := "()Z" } : Jvm.MethodName) jdk_68_method_68_code (1 : Nat) (Option.some Jvm.ClassFile.FieldType.boolean), Jvm.Cond.code ({ cls := "java/util/Arrays", name := "copyOfRange", desc := "([BII)[B" } : Jvm.MethodName) jdk_65_method_132_code (3 : Nat) (Option.some (Jvm.ClassFile.FieldType.array Jvm.ClassFile.FieldType.byte)), Jvm.Cond.code ({ cls := "java/util/Arrays", name := "copyOfRangeByte", desc := "([BII)[B" } : Jvm.MethodName) jdk_65_method_133_code (5 : Nat) (Option.some (Jvm.ClassFile.FieldType.array Jvm.ClassFile.FieldType.byte)), Jvm.Cond.code ({ cls := "java/util/Arrays", name := "checkLength", desc := "(II)V" } : Jvm.MethodName) jdk_65_method_131_code (2 : Nat) (Option.none : Option Jvm.ClassFile.FieldType), Jvm.Cond.code ({ cls := "java/lang/Math", name := "min", desc := "(II)I" } : Jvm.MethodName) jdk_29_method_69_code (2 : Nat) (Option.some Jvm.ClassFile.FieldType.int), Jvm.Cond.code ({ cls := "java/util/LinkedHashMap", name := "newNode", desc := "(ILjava/lang/Object;Ljava/lang/Object;Ljava/util/HashMap$Node;)Ljava/util/HashMap$Node;" } : Jvm.MethodName) jdk_94_method_4_code (6 : Nat) (Option.some (Jvm.ClassFile.FieldType.object "java/util/HashMap$Node")), Jvm.Cond.code ({ cls := "java/util/LinkedHashMap$Entry", name := "<init>", desc := "(ILjava/lang/Object;Ljava/lang/Object;Ljava/util/HashMap$Node;)V" } : Jvm.MethodName) jdk_83_method_1_code (5 : Nat) (Option.none : Option Jvm.ClassFile.FieldType), Jvm.Cond.code ({ cls := "java/util/HashMap$Node", name := "<init>", desc := "(ILjava/lang/Object;Ljava/lang/Object;Ljava/util/HashMap$Node;)V" } : Jvm.MethodName) jdk_70_method_1_code (5 : Nat) (Option.none : Option Jvm.ClassFile.FieldType), Jvm.Cond.code ({ cls := "java/util/LinkedHashMap", name := "linkNodeAtEnd", desc := "(Ljava/util/LinkedHashMap$Entry;)V" } : Jvm.MethodName) jdk_94_method_1_code (3 : Nat) (Option.none : Option Jvm.ClassFile.FieldType), Jvm.Cond.code ({ cls := "java/util/LinkedHashMap", name := "afterNodeInsertion", desc := "(Z)V" } : Jvm.MethodName) jdk_94_method_9_code (4 : Nat) (Option.none : Option Jvm.ClassFile.FieldType), Jvm.Cond.code ({ cls := "java/util/LinkedHashMap", name := "removeEldestEntry", desc := "(Ljava/util/Map$Entry;)Z" } : Jvm.MethodName) jdk_94_method_23_code (2 : Nat) (Option.some Jvm.ClassFile.FieldType.boolean), Jvm.Cond.code ({ cls := "com/example/mandoline/mandoline/Variable", name := "declaringStatement", desc := "()Lcom/example/mandoline/mandoline/ClangNode;" } : Jvm.MethodName) prog_50_method_5_code (1 : Nat) (Option.some (Jvm.ClassFile.FieldType.object "com/example/mandoline/mandoline/ClangNode")), Jvm.Cond.code ({ cls := "java/lang/String", name := "<init>", desc := "([C)V" } : Jvm.MethodName) jdk_42_method_3_code (2 : Nat) (Option.none : Option Jvm.ClassFile.FieldType), Jvm.Cond.code ({ cls := "java/lang/String", name := "<init>", desc := "([CIILjava/lang/Void;)V" } : Jvm.MethodName) jdk_42_method_149_code (6 : Nat) (Option.none : Option Jvm.ClassFile.FieldType), Jvm.Cond.code ({ cls := "java/lang/StringUTF16", name := "compress", desc := "([CII)[B" } : Jvm.MethodName) jdk_52_method_16_code (6 : Nat) (Option.some (Jvm.ClassFile.FieldType.array Jvm.ClassFile.FieldType.byte)), Jvm.Cond.code ({ cls := "java/lang/StringUTF16", name := "compress", desc := "([CI[BII)I" } : Jvm.MethodName) jdk_52_method_21_code (7 : Nat) (Option.some Jvm.ClassFile.FieldType.int), Jvm.Cond.code ({ cls := "java/lang/StringUTF16", name := "coderFromArrayLen", desc := "([BI)B" } : Jvm.MethodName) jdk_52_method_15_code (2 : Nat) (Option.some Jvm.ClassFile.FieldType.byte), Jvm.Cond.code ({ cls := "java/util/ArrayList", name := "<init>", desc := "()V" } : Jvm.MethodName) jdk_38_method_2_code (1 : Nat) (Option.none : Option Jvm.ClassFile.FieldType), Jvm.Cond.code ({ cls := "java/util/AbstractList", name := "<init>", desc := "()V" } : Jvm.MethodName) jdk_39_method_1_code (1 : Nat) (Option.none : Option Jvm.ClassFile.FieldType), Jvm.Cond.code ({ cls := "java/util/AbstractCollection", name := "<init>", desc := "()V" } : Jvm.MethodName) jdk_22_method_1_code (1 : Nat) (Option.none : Option Jvm.ClassFile.FieldType), Jvm.Cond.code ({ cls := "com/example/mandoline/mandoline/ClangNode", name := "<init>", desc := "(Ljava/lang/String;[Ljava/lang/String;Lcom/example/mandoline/mandoline/ClangLocation;Lcom/example/mandoline/mandoline/ClangLocation;Lcom/example/mandoline/mandoline/ClangLocation;Ljava/util/List;)V" } : Jvm.MethodName) prog_9_method_1_code (7 : Nat) (Option.none : Option Jvm.ClassFile.FieldType), Jvm.Cond.code ({ cls := "java/util/Collections", name := "unmodifiableList", desc := "(Ljava/util/List;)Ljava/util/List;" } : Jvm.MethodName) jdk_79_method_35_code (1 : Nat) (Option.some (Jvm.ClassFile.FieldType.object "java/util/List")), Jvm.Cond.code ({ cls := "java/util/Collections$UnmodifiableRandomAccessList", name := "<init>", desc := "(Ljava/util/List;)V" } : Jvm.MethodName) jdk_121_method_1_code (2 : Nat) (Option.none : Option Jvm.ClassFile.FieldType), Jvm.Cond.code ({ cls := "java/util/Collections$UnmodifiableList", name := "<init>", desc := "(Ljava/util/List;)V" } : Jvm.MethodName) jdk_120_method_1_code (2 : Nat) (Option.none : Option Jvm.ClassFile.FieldType), Jvm.Cond.code ({ cls := "java/util/Collections$UnmodifiableCollection", name := "<init>", desc := "(Ljava/util/Collection;)V" } : Jvm.MethodName) jdk_119_method_1_code (2 : Nat) (Option.none : Option Jvm.ClassFile.FieldType)]
set_option maxRecDepth 65536 in
theorem codes_eq : words1.filter isCode = codes1 := rfl
theorem w_codes : ∀ c ∈ words1.filter isCode, c.before args0 about1 = true := by
  rw [codes_eq]
  intro c hc
  simp only [codes1, List.mem_cons, List.not_mem_nil, or_false] at hc
  rcases hc with rfl | rfl | rfl | rfl | rfl | rfl | rfl | rfl | rfl | rfl | rfl | rfl | rfl | rfl | rfl | rfl | rfl | rfl | rfl | rfl | rfl | rfl | rfl | rfl | rfl | rfl | rfl | rfl | rfl | rfl | rfl | rfl | rfl | rfl | rfl | rfl | rfl | rfl | rfl | rfl | rfl | rfl | rfl | rfl | rfl | rfl | rfl | rfl | rfl | rfl | rfl | rfl | rfl | rfl | rfl | rfl | rfl | rfl | rfl | rfl | rfl | rfl | rfl | rfl | rfl | rfl
  · exact w_c0
  · exact w_c1
  · exact w_c2
  · exact w_c3
  · exact w_c4
  · exact w_c5
  · exact w_c6
  · exact w_c7
  · exact w_c8
  · exact w_c9
  · exact w_c10
  · exact w_c11
  · exact w_c12
  · exact w_c13
  · exact w_c14
  · exact w_c15
  · exact w_c16
  · exact w_c17
  · exact w_c18
  · exact w_c19
  · exact w_c20
  · exact w_c21
  · exact w_c22
  · exact w_c23
  · exact w_c24
  · exact w_c25
  · exact w_c26
  · exact w_c27
  · exact w_c28
  · exact w_c29
  · exact w_c30
  · exact w_c31
  · exact w_c32
  · exact w_c33
  · exact w_c34
  · exact w_c35
  · exact w_c36
  · exact w_c37
  · exact w_c38
  · exact w_c39
  · exact w_c40
  · exact w_c41
  · exact w_c42
  · exact w_c43
  · exact w_c44
  · exact w_c45
  · exact w_c46
  · exact w_c47
  · exact w_c48
  · exact w_c49
  · exact w_c50
  · exact w_c51
  · exact w_c52
  · exact w_c53
  · exact w_c54
  · exact w_c55
  · exact w_c56
  · exact w_c57
  · exact w_c58
  · exact w_c59
  · exact w_c60
  · exact w_c61
  · exact w_c62
  · exact w_c63
  · exact w_c64
  · exact w_c65
set_option maxRecDepth 65536 in
theorem w_t1 : (words1.take 24).all (fun c => isCode c || c.before args0 about1) = true := by decide +kernel
set_option maxRecDepth 65536 in
theorem w_t2 : ((words1.drop 24).take 24).all (fun c => isCode c || c.before args0 about1) = true := by decide +kernel
set_option maxRecDepth 65536 in
theorem w_t3 : (((words1.drop 24).drop 24).take 24).all (fun c => isCode c || c.before args0 about1) = true := by decide +kernel
set_option maxRecDepth 65536 in
theorem w_t4 : ((((words1.drop 24).drop 24).drop 24).take 24).all (fun c => isCode c || c.before args0 about1) = true := by decide +kernel
set_option maxRecDepth 65536 in
theorem w_t5 : (((((words1.drop 24).drop 24).drop 24).drop 24).take 24).all (fun c => isCode c || c.before args0 about1) = true := by decide +kernel
set_option maxRecDepth 65536 in
theorem w_t6 : ((((((words1.drop 24).drop 24).drop 24).drop 24).drop 24).take 24).all (fun c => isCode c || c.before args0 about1) = true := by decide +kernel
set_option maxRecDepth 65536 in
theorem w_t7 : (((((((words1.drop 24).drop 24).drop 24).drop 24).drop 24).drop 24).take 24).all (fun c => isCode c || c.before args0 about1) = true := by decide +kernel
set_option maxRecDepth 65536 in
theorem w_t8 : ((((((((words1.drop 24).drop 24).drop 24).drop 24).drop 24).drop 24).drop 24).take 24).all (fun c => isCode c || c.before args0 about1) = true := by decide +kernel
set_option maxRecDepth 65536 in
theorem w_t9 : (((((((((words1.drop 24).drop 24).drop 24).drop 24).drop 24).drop 24).drop 24).drop 24).take 24).all (fun c => isCode c || c.before args0 about1) = true := by decide +kernel
set_option maxRecDepth 65536 in
theorem w_t10 : ((((((((((words1.drop 24).drop 24).drop 24).drop 24).drop 24).drop 24).drop 24).drop 24).drop 24).take 24).all (fun c => isCode c || c.before args0 about1) = true := by decide +kernel
set_option maxRecDepth 65536 in
theorem w_t11 : (((((((((((words1.drop 24).drop 24).drop 24).drop 24).drop 24).drop 24).drop 24).drop 24).drop 24).drop 24).take 24).all (fun c => isCode c || c.before args0 about1) = true := by decide +kernel
set_option maxRecDepth 65536 in
theorem w_t12 : ((((((((((((words1.drop 24).drop 24).drop 24).drop 24).drop 24).drop 24).drop 24).drop 24).drop 24).drop 24).drop 24).take 24).all (fun c => isCode c || c.before args0 about1) = true := by decide +kernel
set_option maxRecDepth 65536 in
theorem w_t13 : (((((((((((((words1.drop 24).drop 24).drop 24).drop 24).drop 24).drop 24).drop 24).drop 24).drop 24).drop 24).drop 24).drop 24).take 24).all (fun c => isCode c || c.before args0 about1) = true := by decide +kernel
set_option maxRecDepth 65536 in
theorem w_t14 : ((((((((((((((words1.drop 24).drop 24).drop 24).drop 24).drop 24).drop 24).drop 24).drop 24).drop 24).drop 24).drop 24).drop 24).drop 24).take 24).all (fun c => isCode c || c.before args0 about1) = true := by decide +kernel
set_option maxRecDepth 65536 in
theorem w_t15 : (((((((((((((((words1.drop 24).drop 24).drop 24).drop 24).drop 24).drop 24).drop 24).drop 24).drop 24).drop 24).drop 24).drop 24).drop 24).drop 24).take 24).all (fun c => isCode c || c.before args0 about1) = true := by decide +kernel
set_option maxRecDepth 65536 in
theorem w_t16 : ((((((((((((((((words1.drop 24).drop 24).drop 24).drop 24).drop 24).drop 24).drop 24).drop 24).drop 24).drop 24).drop 24).drop 24).drop 24).drop 24).drop 24).take 24).all (fun c => isCode c || c.before args0 about1) = true := by decide +kernel
set_option maxRecDepth 65536 in
theorem w_t17 : (((((((((((((((((words1.drop 24).drop 24).drop 24).drop 24).drop 24).drop 24).drop 24).drop 24).drop 24).drop 24).drop 24).drop 24).drop 24).drop 24).drop 24).drop 24).take 24).all (fun c => isCode c || c.before args0 about1) = true := by decide +kernel
set_option maxRecDepth 65536 in
theorem w_t18 : ((((((((((((((((((words1.drop 24).drop 24).drop 24).drop 24).drop 24).drop 24).drop 24).drop 24).drop 24).drop 24).drop 24).drop 24).drop 24).drop 24).drop 24).drop 24).drop 24).take 24).all (fun c => isCode c || c.before args0 about1) = true := by decide +kernel
set_option maxRecDepth 65536 in
theorem w_t19 : ((((((((((((((((((words1.drop 24).drop 24).drop 24).drop 24).drop 24).drop 24).drop 24).drop 24).drop 24).drop 24).drop 24).drop 24).drop 24).drop 24).drop 24).drop 24).drop 24).drop 24).all (fun c => isCode c || c.before args0 about1) = true := by decide +kernel
theorem w_tables : (allAtoms (Jvm.Cond.code x code maxLocals ret :: tables_1)).before args0 about1 = true := by
  rw [allAtoms_all]
  show words1.all (fun c => c.before args0 about1) = true
  refine all_split ?_ w_codes
  rw [← List.take_append_drop 24 words1, List.all_append, w_t1, ← List.take_append_drop 24 (words1.drop 24), List.all_append, w_t2, ← List.take_append_drop 24 ((words1.drop 24).drop 24), List.all_append, w_t3, ← List.take_append_drop 24 (((words1.drop 24).drop 24).drop 24), List.all_append, w_t4, ← List.take_append_drop 24 ((((words1.drop 24).drop 24).drop 24).drop 24), List.all_append, w_t5, ← List.take_append_drop 24 (((((words1.drop 24).drop 24).drop 24).drop 24).drop 24), List.all_append, w_t6, ← List.take_append_drop 24 ((((((words1.drop 24).drop 24).drop 24).drop 24).drop 24).drop 24), List.all_append, w_t7, ← List.take_append_drop 24 (((((((words1.drop 24).drop 24).drop 24).drop 24).drop 24).drop 24).drop 24), List.all_append, w_t8, ← List.take_append_drop 24 ((((((((words1.drop 24).drop 24).drop 24).drop 24).drop 24).drop 24).drop 24).drop 24), List.all_append, w_t9, ← List.take_append_drop 24 (((((((((words1.drop 24).drop 24).drop 24).drop 24).drop 24).drop 24).drop 24).drop 24).drop 24), List.all_append, w_t10, ← List.take_append_drop 24 ((((((((((words1.drop 24).drop 24).drop 24).drop 24).drop 24).drop 24).drop 24).drop 24).drop 24).drop 24), List.all_append, w_t11, ← List.take_append_drop 24 (((((((((((words1.drop 24).drop 24).drop 24).drop 24).drop 24).drop 24).drop 24).drop 24).drop 24).drop 24).drop 24), List.all_append, w_t12, ← List.take_append_drop 24 ((((((((((((words1.drop 24).drop 24).drop 24).drop 24).drop 24).drop 24).drop 24).drop 24).drop 24).drop 24).drop 24).drop 24), List.all_append, w_t13, ← List.take_append_drop 24 (((((((((((((words1.drop 24).drop 24).drop 24).drop 24).drop 24).drop 24).drop 24).drop 24).drop 24).drop 24).drop 24).drop 24).drop 24), List.all_append, w_t14, ← List.take_append_drop 24 ((((((((((((((words1.drop 24).drop 24).drop 24).drop 24).drop 24).drop 24).drop 24).drop 24).drop 24).drop 24).drop 24).drop 24).drop 24).drop 24), List.all_append, w_t15, ← List.take_append_drop 24 (((((((((((((((words1.drop 24).drop 24).drop 24).drop 24).drop 24).drop 24).drop 24).drop 24).drop 24).drop 24).drop 24).drop 24).drop 24).drop 24).drop 24), List.all_append, w_t16, ← List.take_append_drop 24 ((((((((((((((((words1.drop 24).drop 24).drop 24).drop 24).drop 24).drop 24).drop 24).drop 24).drop 24).drop 24).drop 24).drop 24).drop 24).drop 24).drop 24).drop 24), List.all_append, w_t17, ← List.take_append_drop 24 (((((((((((((((((words1.drop 24).drop 24).drop 24).drop 24).drop 24).drop 24).drop 24).drop 24).drop 24).drop 24).drop 24).drop 24).drop 24).drop 24).drop 24).drop 24).drop 24), List.all_append, w_t18, w_t19]
  rfl
set_option maxRecDepth 65536 in
theorem w_rest : rest_1_c.before args0 about1 = true := by decide +kernel
set_option maxRecDepth 65536 in
theorem w_case : (Jvm.Cond.and given_1 narrow_1).before args0 about1 = true := by decide +kernel
set_option maxRecDepth 65536 in
theorem w_consts : constsHeld consts_1 about1 := Jvm.Lit.constsHeldB_iff.mp (by decide +kernel)
theorem w_applies : (headSpec (Jvm.Cond.code x code maxLocals ret :: tables_1) room_1).applies x e0.platform about1 = true :=
  (Spec.applies_iff w_frames).mpr ⟨w_running, w_runnable, w_alone, w_named, w_hears, w_ripe, w_room, w_tables⟩
theorem atStart : AtStart classFile x code maxLocals ret World_1 tables_1 room_1 Calls_1 rest_1 Pre_1 launch0 p0 e0 about1 theMethod args0 below0 :=
  ⟨lists_1, trivial, launch0.admits_env _ _ _, launch0.least_env, fairChoices_fair.cas, fairChoices_fair.clock, w_frames, w_args, w_heap, w_applies, ⟨⟨38, k38, 4, by decide +kernel, rfl, rfl, _, rfl, rfl⟩, ⟨⟨41, k41, 5, by decide +kernel, rfl, rfl, _, rfl, rfl⟩, ⟨⟨42, k42, 6, by decide +kernel, rfl, rfl, _, rfl, rfl⟩, ⟨w_consts, trivial⟩⟩⟩⟩, w_rest, w_case⟩
end start1
theorem witness_1 : WitnessClaimed_1 := ⟨start1.p0, start1.e0, start1.about1, start1.theMethod, start1.args0, start1.below0, start1.atStart⟩
end Jvm.Pilot.@@N@@
