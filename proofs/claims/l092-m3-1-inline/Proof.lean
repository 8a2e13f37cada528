import JvmDerived
import JvmDerived.Pilot.@@N@@Statement
import JvmDerived.Pilot.@@N@@Code
set_option linter.unusedVariables false
set_option linter.unusedSimpArgs false
@@BLOCK:LamKit.lean.txt@@
namespace Jvm.Pilot.@@N@@
open Jvm Jvm.ClassFile Sem Op Lib Jvm.Free Jvm.Stand Jvm.LawKit Jvm.RoadKit Bundle Jvm.Pilot.@@N@@.Jvm.D
section OwnKit
variable {p : Program} {l : Launch} {e : Env} {R : Room} {s : State} {m : MethodId} {args : Array Value} {below : List Frame} {meth : Method} {c : Code} {T : State} {locs : List Loc} {cells slots : Nat}
/-- from T with the frame F on top the body ends, and its end is as P says -/
def Rch (p : Program) (e : Env) (below : List Frame) (T : State) (F : JFrame) (P : Outcome → State → Prop) : Prop := ∃ s₂ o, Steps p.tables e below (T.setTop F) s₂ ∧ s₂.status = .running ∧ Ended s₂ below o ∧ P o s₂
theorem Rch.st {P : Outcome → State → Prop} {T T' : State} {F F' : JFrame} (k : ∀ t, Steps p.tables e below (T'.setTop F') t → Steps p.tables e below (T.setTop F) t) (h : Rch p e below T' F' P) : Rch p e below T F P :=
  let ⟨a, o, h1, h2⟩ := h
  ⟨a, o, k _ h1, h2⟩
theorem Rch.sq {P : Outcome → State → Prop} {T T' : State} {F F' : JFrame} (k : Steps p.tables e below (T.setTop F) (T'.setTop F')) (h : Rch p e below T' F' P) : Rch p e below T F P := Rch.st (fun _ q => k.trans q) h
theorem Rch.cast {P : Outcome → State → Prop} {T : State} {F F' : JFrame} (q : F = F') (h : Rch p e below T F' P) : Rch p e below T F P := q ▸ h
/-- a return, as a contract says it -/
def FinP (s : State) (Q : Option Value → Heap → List Loc → Prop) (K N : Nat) (o : Outcome) (U : State) : Prop := ∃ v L, o = .returned v ∧ Q v U.heap L ∧ FrameEnd s o U L K N
theorem Rch.retV (X : Stand p l e R s m args below meth c T locs cells slots) (hx : p.tables.exec = Jvm.exec) {pc : Nat} {Ls : Array Slot} {w : Value} {t : FieldType} {i : Instr} {rest : List Value} {Q : Option Value → Heap → List Loc → Prop} {K N : Nat} (hret : meth.sig.returnType = some t) (hn : narrow t w = w)
    (hi : (i = .ireturn ∧ (t = .int ∨ t = .boolean ∨ t = .byte ∨ t = .char ∨ t = .short) ∧ ∃ z, w = .int z) ∨ (i = .lreturn ∧ t = .long ∧ ∃ z, w = .long z) ∨ (i = .dreturn ∧ t = .double ∧ ∃ z, w = .double z) ∨ (i = .freturn ∧ t = .float ∧ ∃ z, w = .float z) ∨ (i = .areturn ∧ t.isReference = true ∧ w.isRef = true))
    (hd : decode c.code pc = .ok (i, 1)) (hq : Q (some w) T.heap locs) (hk : cells ≤ K) (hs : slots ≤ N) (hlocks : meth.locks = false := by first | assumption | exact BodyLoose.notSynchronized (by assumption) | exact Body.notSynchronized (by assumption)) : Rch p e below T (mkF m pc Ls (w :: rest)) (FinP s Q K N) := by
  obtain ⟨fs, hr, hrun, hended, hW, hsame⟩ := X.leave (v := some w) (fun h => by rw [hret] at h; cases h) hlocks
  exact ⟨_, _, retOut X hx hret hn hi hd hr, hrun, hended, _, _, rfl, hq, ⟨_, rfl⟩, hW, hsame.mono hk hs⟩
theorem Rch.ret0 (X : Stand p l e R s m args below meth c T locs cells slots) (hx : p.tables.exec = Jvm.exec) {pc : Nat} {Ls : Array Slot} {Q : Option Value → Heap → List Loc → Prop} {K N : Nat} (hret : meth.sig.returnType = none)
    (hd : decode c.code pc = .ok (.return_, 1)) (hq : Q none T.heap locs) (hk : cells ≤ K) (hs : slots ≤ N) (hlocks : meth.locks = false := by first | assumption | exact BodyLoose.notSynchronized (by assumption) | exact Body.notSynchronized (by assumption)) : Rch p e below T (mkF m pc Ls []) (FinP s Q K N) := by
  obtain ⟨fs, hr, hrun, hended, hW, hsame⟩ := X.leave (v := none) (fun _ => rfl) hlocks
  exact ⟨_, _, X.returnOut hx hret hd hr, hrun, hended, _, _, rfl, hq, ⟨_, rfl⟩, hW, hsame.mono hk hs⟩
theorem Rnar {t : FieldType} {w : Value} (h : w.isRef = true) : narrow t w = w := by cases w <;> first | (cases t <;> rfl) | (simp [Value.isRef] at h)
theorem Rfit {t : FieldType} {w : Value} (ht : t.isReference = true) (h : w.isRef = true) : fits t w = true := by cases t <;> first | (cases ht; done) | (cases w <;> simp [Value.isRef, fits] at h ⊢)
theorem own_selP {args : Array Value} {y : MethodName} {n : Nat} (wi : (Cond.instantiable y.cls n).before args s = true) (hpriv : s.PrivateAt y) (hinst : (Cond.instanceMethod y).before args s = true) (hy : y.cls ≠ "java/lang/invoke/MethodHandle" ∧ y.cls ≠ "java/lang/invoke/VarHandle") : (Cond.selects y.cls y y).before args s = true := by
  obtain ⟨c2, k2, i1, i2, i3, i4⟩ := Cond.instantiable_spec wi
  exact selects_self_of_private i1 i2 (by simp_all) hpriv hinst hy
theorem lremM {g : JFrame} {target : State} (X : Stand p l e R s m args below meth c T locs cells slots) (hx : p.tables.exec = Jvm.exec) (hg : g.method = m) {x y : Int64} {rest : List Value} (hd : decode c.code g.pc = .ok (.lrem, 1)) (hs : g.stack = .long y :: .long x :: rest) (hy : y ≠ 0)
    (hr : Steps p.tables e below (T.setTop { g with pc := g.pc + 1, stack := .long (x % y) :: rest }) target) : Steps p.tables e below (T.setTop g) target := XT.lrem X.here hx hg hd hs hy (by rw [lrem_mod]; exact hr)
theorem ldc2D {g : JFrame} {target : State} (X : Stand p l e R s m args below meth c T locs cells slots) (hx : p.tables.exec = Jvm.exec) {own : String} {index : Nat} {b : UInt64} (hown : s.vm.findClass own = some m.cls) (hconst : (Cond.constantDouble own index b).before args s = true) (hg : g.method = m) (hd : decode c.code g.pc = .ok (.ldc2_w index, 3))
    (hr : Steps p.tables e below (T.setTop { g with pc := g.pc + 3, stack := .double b :: g.stack }) target) : Steps p.tables e below (T.setTop g) target := X.ldc2DoubleC hx hown hconst hg hd target hr
theorem own_face {args : Array Value} {C : String} {x z : MethodName} (hsel : (Cond.selects C x z).before args s = true) : ∃ mk k, s.methodNamed? z = some mk ∧ s.vm.classes[mk.cls]? = some k ∧ k.isInterface = false := by
  obtain ⟨c2, r2, m2, -, -, q3, -, kP, hkP, hkPi⟩ := Cond.selects_spec hsel
  exact ⟨_, kP, q3, hkP, hkPi⟩
theorem own_nf {args : Array Value} {C : String} {x y z : MethodName} (hsel : (Cond.selects C x z).before args s = true) (hz : z.cls = y.cls) : NotFace s y := fun r0 h0 => by
  obtain ⟨mk, k, h1, h2, h3⟩ := own_face hsel
  have hc1 := findClass_of_methodNamed h1
  have hc2 := findClass_of_methodNamed h0
  rw [hz, hc2] at hc1
  have e : r0.cls = mk.cls := Option.some.inj hc1
  exact ⟨k, by rw [e]; exact h2, h3⟩
theorem own_selQ {args : Array Value} {C : String} {x y : MethodName} (hsel : (Cond.selects C x y).before args s = true) (hpriv : s.PrivateAt y) (hinst : (Cond.instanceMethod y).before args s = true) (hy : y.cls ≠ "java/lang/invoke/MethodHandle" ∧ y.cls ≠ "java/lang/invoke/VarHandle") : (Cond.selects y.cls y y).before args s = true := by
  obtain ⟨mk, k, h1, h2, h3⟩ := own_face hsel
  exact selects_self_of_private (findClass_of_methodNamed h1) h2 h3 hpriv hinst hy
theorem own_sameM {args : Array Value} {C : String} {x y z : MethodName} (hsel : (Cond.selects C x z).before args s = true) (hz : z.cls = y.cls) (hinst : (Cond.instanceMethod y).before args s = true) (hy : y.cls ≠ "java/lang/invoke/MethodHandle" ∧ y.cls ≠ "java/lang/invoke/VarHandle") : (Cond.sameMethod y.cls y.cls y.name y.desc).before args s = true := by
  obtain ⟨mk, k, h1, h2, h3⟩ := own_face hsel
  obtain ⟨my, methM, hnamed, hmethM, -, -⟩ := Cond.instanceMethod_spec hinst
  have hfound : s.methodFound? y.cls y.name y.desc = some my := State.methodFound?_of_named hnamed hy
  have hc1 := findClass_of_methodNamed h1
  have hc2 := findClass_of_methodNamed hnamed
  rw [hz, hc2] at hc1
  have e : my.cls = mk.cls := Option.some.inj hc1
  simp only [Cond.before, Cond.holds, Cond.value, hc2, hfound, show s.methodNamed? ⟨y.cls, y.name, y.desc⟩ = some my from hnamed, e, h2]
  simp [h3]
end OwnKit
/-- what stood at the start Z stands in h; whatever lies at or above n0 is new since then -/
def OldL (Z : State) (n0 : Nat) (h : Heap) : Prop := Z.heap.size ≤ n0 ∧ Ext Z.heap h
theorem OldL.start (s : State) : OldL s s.heap.size s.heap := ⟨Nat.le_refl _, Nat.le_refl _, fun _ _ q => q⟩
theorem OldL.ext {Z : State} {n0 : Nat} {h h' : Heap} (X : OldL Z n0 h) (E : Ext h h') : OldL Z n0 h' := ⟨X.1, Nat.le_trans X.2.1 E.1, fun x c q => E.2 x c (X.2.2 x c q)⟩
theorem OldL.keep {Z : State} {n0 : Nat} {h h' : Heap} {ws : List Addr} (X : OldL Z n0 h) (K : Keep h h' ws) (q : ∀ x ∈ ws, n0 ≤ x) : OldL Z n0 h' := ⟨X.1, Nat.le_trans X.2.1 K.1, fun x c r => K.2.1 x c (X.2.2 x c r) fun z => absurd (Nat.lt_of_lt_of_le (Array.getElem?_eq_some_iff.mp r).1 X.1) (Nat.not_lt.mpr (q x z))⟩
theorem OldL.wr {Z : State} {n0 : Nat} {h h' : Heap} {a : Addr} {sl : Nat} {v : Value} (X : OldL Z n0 h) (W : Wr h h' a sl v) (q : n0 ≤ a) : OldL Z n0 h' := X.keep (Keep.of_wr W) (allS q all0)
theorem OldL.up {Z : State} {n0 : Nat} {h : Heap} {k : Nat} (X : OldL Z n0 h) (q : n0 ≤ k) : OldL Z k h := ⟨Nat.le_trans X.1 q, X.2⟩
theorem own_Fr {k k' : Nat} {L : List Loc} (q : k ≤ k') (N : Fr k' L) : Fr k L := fun y hy => Nat.le_trans q (N y hy)
section OwnArr
variable {p : Program} {l : Launch} {e : Env} {R : Room} {s : State} {m : MethodId} {args : Array Value} {below : List Frame} {meth : Method} {c : Code} {T Z : State} {locs : List Loc} {cells slots : Nat} {h : Heap} {a : Addr} {k : ClassId} {n j x : Int32} {vs : List Value} {d v : Value} {g : JFrame} {rest : List Value} {target : State}
theorem own_alen {ty : FieldType} (X : Stand p l e R s m args below meth c T locs cells slots) (hx : p.tables.exec = Jvm.exec) (hZ : Z.Warmed39 s.vm) (eT : T.heap = h) (V : Arv Z h a k ty n vs d) (hg : g.method = m) (hs : g.stack = .ref a :: rest) (hd : decode c.code g.pc = .ok (.arraylength, 1))
    (hr : Steps p.tables e below (T.setTop { g with pc := g.pc + 1, stack := .int n :: rest }) target) : Steps p.tables e below (T.setTop g) target := by
  obtain ⟨cl, Ar, q, S, M, H, G⟩ := V
  refine X.arraylength hx (by rw [eT]; exact Ar.1) (State.isArrayOf_alike hZ.alike Ar.2.1) hg hs hd _ ?_
  rw [len_of S M]; exact hr
theorem own_ldB (X : Stand p l e R s m args below meth c T locs cells slots) (hx : p.tables.exec = Jvm.exec) (hZ : Z.Warmed39 s.vm) (eT : T.heap = h) (V : Arv Z h a k .byte n vs d) (hj : ¬ j < 0 ∧ j < n) (hv : vs.getD j.toNatClampNeg d = v) (hg : g.method = m) (hs : g.stack = .int j :: .ref a :: rest) (hd : decode c.code g.pc = .ok (.baload, 1))
    (hr : Steps p.tables e below (T.setTop { g with pc := g.pc + 1, stack := v :: rest }) target) : Steps p.tables e below (T.setTop g) target := by
  obtain ⟨cl, Ar, q, S, M, H, G⟩ := V
  exact X.baloadBytes hx (by rw [eT]; exact Ar.1) (State.isArrayOf_alike hZ.alike Ar.2.1) Ar.2.2 (inb_of S hj) (H.at (inb_of S hj) hv) hg hs hd _ hr
theorem own_ldC (X : Stand p l e R s m args below meth c T locs cells slots) (hx : p.tables.exec = Jvm.exec) (hZ : Z.Warmed39 s.vm) (eT : T.heap = h) (V : Arv Z h a k .char n vs d) (hj : ¬ j < 0 ∧ j < n) (hv : vs.getD j.toNatClampNeg d = v) (hg : g.method = m) (hs : g.stack = .int j :: .ref a :: rest) (hd : decode c.code g.pc = .ok (.caload, 1))
    (hr : Steps p.tables e below (T.setTop { g with pc := g.pc + 1, stack := v :: rest }) target) : Steps p.tables e below (T.setTop g) target := by
  obtain ⟨cl, Ar, q, S, M, H, G⟩ := V
  exact X.caload hx (by rw [eT]; exact Ar.1) (State.isArrayOf_alike hZ.alike Ar.2.1) Ar.2.2 (inb_of S hj) (H.at (inb_of S hj) hv) hg hs hd _ hr
theorem own_stC (X : Stand p l e R s m args below meth c T locs cells slots) (hx : p.tables.exec = Jvm.exec) (hZ : Z.Warmed39 s.vm) (eT : T.heap = h) (V : Arv Z h a k .char n vs d) (hj : ¬ j < 0 ∧ j < n) (i : Nat) (hi : j.toNatClampNeg = i) (hl : i < vs.length) (hg : g.method = m) (hs : g.stack = .int x :: .int j :: .ref a :: rest) (hd : decode c.code g.pc = .ok (.castore, 1)) :
    ∃ T' h', Stand p l e R s m args below meth c T' (locs ++ [⟨a, j.toNatClampNeg⟩]) cells slots ∧ T'.heap = h' ∧ Wr h h' a j.toNatClampNeg (.int (nar .char x)) ∧ Arv Z h' a k .char n (vs.set i (.int (nar .char x))) d ∧ ∀ target, Steps p.tables e below (T'.setTop { g with pc := g.pc + 1, stack := rest }) target → Steps p.tables e below (T.setTop g) target := by
  obtain ⟨cl, Ar, q, S, M, H, G⟩ := V
  obtain ⟨T', h', X', e', W, st⟩ := stC X hx hZ eT Ar (inb_of S hj) hg hs hd
  exact ⟨T', h', X', e', W, Arv.set Ar q S M H G (fits_nar_char _) W i hi hl, st⟩
theorem own_stB (X : Stand p l e R s m args below meth c T locs cells slots) (hx : p.tables.exec = Jvm.exec) (hZ : Z.Warmed39 s.vm) (eT : T.heap = h) (V : Arv Z h a k .byte n vs d) (hj : ¬ j < 0 ∧ j < n) (i : Nat) (hi : j.toNatClampNeg = i) (hl : i < vs.length) (hg : g.method = m) (hs : g.stack = .int x :: .int j :: .ref a :: rest) (hd : decode c.code g.pc = .ok (.bastore, 1)) :
    ∃ T' h', Stand p l e R s m args below meth c T' (locs ++ [⟨a, j.toNatClampNeg⟩]) cells slots ∧ T'.heap = h' ∧ Wr h h' a j.toNatClampNeg (.int x.toInt8.toInt32) ∧ Arv Z h' a k .byte n (vs.set i (.int x.toInt8.toInt32)) d ∧ ∀ target, Steps p.tables e below (T'.setTop { g with pc := g.pc + 1, stack := rest }) target → Steps p.tables e below (T.setTop g) target := by
  obtain ⟨cl, Ar, q, S, M, H, G⟩ := V
  obtain ⟨T', h', X', e', W, st⟩ := stB X hx hZ eT Ar (inb_of S hj) hg hs hd
  exact ⟨T', h', X', e', W, Arv.set Ar q S M H G (fits_nar_byte _) W i hi hl, st⟩
end OwnArr
section OwnSteps
variable {p : Program} {l : Launch} {e : Env} {R : Room} {s : State} {m : MethodId} {args : Array Value} {below : List Frame} {meth : Method} {c : Code} {T : State} {locs : List Loc} {cells slots : Nat} {b : ByteArray} {P : Outcome → State → Prop} {Ls l' : Array Slot} {st : List Value} {pc : Nat}
theorem w_iloadN {pc' : Nat} {k : Fin 4} {v : Int32} (X : Stand p l e R s m args below meth c T locs cells slots) (hx : p.tables.exec = Jvm.exec) (hby : c.code = b) (hd : decode b pc = .ok (.iload_n k, 1)) (hl : Ls[k.val]? = some (.val (.int v))) (hp : pc + 1 = pc') (H : Rch p e below T (mkF m pc' Ls (.int v :: st)) P) : Rch p e below T (mkF m pc Ls st) P := by subst hp; exact Rch.st (fun _ q => XS.iloadN X.here hx rfl (hb hby hd) hl q) H
theorem w_iload {pc' : Nat} {k : Nat} {v : Int32} (X : Stand p l e R s m args below meth c T locs cells slots) (hx : p.tables.exec = Jvm.exec) (hby : c.code = b) (hd : decode b pc = .ok (.iload k, 2)) (hl : Ls[k]? = some (.val (.int v))) (hp : pc + 2 = pc') (H : Rch p e below T (mkF m pc' Ls (.int v :: st)) P) : Rch p e below T (mkF m pc Ls st) P := by subst hp; exact Rch.st (fun _ q => XS.iload X.here hx rfl (hb hby hd) hl q) H
theorem w_istoreN {pc' : Nat} {k : Fin 4} {v : Int32} (X : Stand p l e R s m args below meth c T locs cells slots) (hx : p.tables.exec = Jvm.exec) (hby : c.code = b) (hd : decode b pc = .ok (.istore_n k, 1)) (hl : storeLocals Ls k.val (.int v) = some l') (hp : pc + 1 = pc') (H : Rch p e below T (mkF m pc' l' st) P) : Rch p e below T (mkF m pc Ls (.int v :: st)) P := by subst hp; exact Rch.st (fun _ q => XS.istoreN X.here hx rfl (hb hby hd) rfl hl q) H
theorem w_istore {pc' : Nat} {k : Nat} {v : Int32} (X : Stand p l e R s m args below meth c T locs cells slots) (hx : p.tables.exec = Jvm.exec) (hby : c.code = b) (hd : decode b pc = .ok (.istore k, 2)) (hl : storeLocals Ls k (.int v) = some l') (hp : pc + 2 = pc') (H : Rch p e below T (mkF m pc' l' st) P) : Rch p e below T (mkF m pc Ls (.int v :: st)) P := by subst hp; exact Rch.st (fun _ q => XS.istore X.here hx rfl (hb hby hd) rfl hl q) H
theorem w_aloadN {pc' : Nat} {k : Fin 4} {v : Value} (X : Stand p l e R s m args below meth c T locs cells slots) (hx : p.tables.exec = Jvm.exec) (hby : c.code = b) (hd : decode b pc = .ok (.aload_n k, 1)) (hl : Ls[k.val]? = some (.val v)) (hv : v.isRef = true) (hp : pc + 1 = pc') (H : Rch p e below T (mkF m pc' Ls (v :: st)) P) : Rch p e below T (mkF m pc Ls st) P := by subst hp; exact Rch.st (fun _ q => XS.aloadN X.here hx rfl (hb hby hd) hl hv q) H
theorem w_aload {pc' : Nat} {k : Nat} {v : Value} (X : Stand p l e R s m args below meth c T locs cells slots) (hx : p.tables.exec = Jvm.exec) (hby : c.code = b) (hd : decode b pc = .ok (.aload k, 2)) (hl : Ls[k]? = some (.val v)) (hv : v.isRef = true) (hp : pc + 2 = pc') (H : Rch p e below T (mkF m pc' Ls (v :: st)) P) : Rch p e below T (mkF m pc Ls st) P := by subst hp; exact Rch.st (fun _ q => XS.aload X.here hx rfl (hb hby hd) hl hv q) H
theorem w_astoreN {pc' : Nat} {k : Fin 4} {v : Value} (X : Stand p l e R s m args below meth c T locs cells slots) (hx : p.tables.exec = Jvm.exec) (hby : c.code = b) (hd : decode b pc = .ok (.astore_n k, 1)) (hv : v.isRef = true) (hl : storeLocals Ls k.val v = some l') (hp : pc + 1 = pc') (H : Rch p e below T (mkF m pc' l' st) P) : Rch p e below T (mkF m pc Ls (v :: st)) P := by subst hp; exact Rch.st (fun _ q => XS.astoreN X.here hx rfl (hb hby hd) rfl hv hl q) H
theorem w_astore {pc' : Nat} {k : Nat} {v : Value} (X : Stand p l e R s m args below meth c T locs cells slots) (hx : p.tables.exec = Jvm.exec) (hby : c.code = b) (hd : decode b pc = .ok (.astore k, 2)) (hv : v.isRef = true) (hl : storeLocals Ls k v = some l') (hp : pc + 2 = pc') (H : Rch p e below T (mkF m pc' l' st) P) : Rch p e below T (mkF m pc Ls (v :: st)) P := by subst hp; exact Rch.st (fun _ q => XS.astore X.here hx rfl (hb hby hd) rfl hv hl q) H
theorem w_iconst {pc' : Nat} {i : Int} {v : Int32} (X : Stand p l e R s m args below meth c T locs cells slots) (hx : p.tables.exec = Jvm.exec) (hby : c.code = b) (hd : decode b pc = .ok (.iconst i, 1)) (hv : Int32.ofInt i = v) (hp : pc + 1 = pc') (H : Rch p e below T (mkF m pc' Ls (.int v :: st)) P) : Rch p e below T (mkF m pc Ls st) P := by subst hp hv; exact Rch.st (fun _ q => XS.iconst X.here hx rfl (hb hby hd)  q) H
theorem w_bipush {pc' : Nat} {i : Int} {v : Int32} (X : Stand p l e R s m args below meth c T locs cells slots) (hx : p.tables.exec = Jvm.exec) (hby : c.code = b) (hd : decode b pc = .ok (.bipush i, 2)) (hv : (Int8.ofInt i).toInt32 = v) (hp : pc + 2 = pc') (H : Rch p e below T (mkF m pc' Ls (.int v :: st)) P) : Rch p e below T (mkF m pc Ls st) P := by subst hp hv; exact Rch.st (fun _ q => XS.bipush X.here hx rfl (hb hby hd)  q) H
theorem w_sipush {pc' : Nat} {i : Int} {v : Int32} (X : Stand p l e R s m args below meth c T locs cells slots) (hx : p.tables.exec = Jvm.exec) (hby : c.code = b) (hd : decode b pc = .ok (.sipush i, 3)) (hv : (Int16.ofInt i).toInt32 = v) (hp : pc + 3 = pc') (H : Rch p e below T (mkF m pc' Ls (.int v :: st)) P) : Rch p e below T (mkF m pc Ls st) P := by subst hp hv; exact Rch.st (fun _ q => XS.sipush X.here hx rfl (hb hby hd)  q) H
theorem w_aconstNull {pc' : Nat}  (X : Stand p l e R s m args below meth c T locs cells slots) (hx : p.tables.exec = Jvm.exec) (hby : c.code = b) (hd : decode b pc = .ok (.aconst_null, 1)) (hp : pc + 1 = pc') (H : Rch p e below T (mkF m pc' Ls (.null :: st)) P) : Rch p e below T (mkF m pc Ls st) P := by subst hp; exact Rch.st (fun _ q => XS.aconstNull X.here hx rfl (hb hby hd)  q) H
theorem w_iadd {pc' : Nat} {x y : Int32} (X : Stand p l e R s m args below meth c T locs cells slots) (hx : p.tables.exec = Jvm.exec) (hby : c.code = b) (hd : decode b pc = .ok (.iadd, 1)) (hp : pc + 1 = pc') (H : Rch p e below T (mkF m pc' Ls (.int (x + y) :: st)) P) : Rch p e below T (mkF m pc Ls (.int y :: .int x :: st)) P := by subst hp; exact Rch.st (fun _ q => XS.iadd X.here hx rfl (hb hby hd) rfl q) H
theorem w_isub {pc' : Nat} {x y : Int32} (X : Stand p l e R s m args below meth c T locs cells slots) (hx : p.tables.exec = Jvm.exec) (hby : c.code = b) (hd : decode b pc = .ok (.isub, 1)) (hp : pc + 1 = pc') (H : Rch p e below T (mkF m pc' Ls (.int (x - y) :: st)) P) : Rch p e below T (mkF m pc Ls (.int y :: .int x :: st)) P := by subst hp; exact Rch.st (fun _ q => XS.isub X.here hx rfl (hb hby hd) rfl q) H
theorem w_imul {pc' : Nat} {x y : Int32} (X : Stand p l e R s m args below meth c T locs cells slots) (hx : p.tables.exec = Jvm.exec) (hby : c.code = b) (hd : decode b pc = .ok (.imul, 1)) (hp : pc + 1 = pc') (H : Rch p e below T (mkF m pc' Ls (.int (x * y) :: st)) P) : Rch p e below T (mkF m pc Ls (.int y :: .int x :: st)) P := by subst hp; exact Rch.st (fun _ q => XS.imul X.here hx rfl (hb hby hd) rfl q) H
theorem w_iand {pc' : Nat} {x y : Int32} (X : Stand p l e R s m args below meth c T locs cells slots) (hx : p.tables.exec = Jvm.exec) (hby : c.code = b) (hd : decode b pc = .ok (.iand, 1)) (hp : pc + 1 = pc') (H : Rch p e below T (mkF m pc' Ls (.int (x &&& y) :: st)) P) : Rch p e below T (mkF m pc Ls (.int y :: .int x :: st)) P := by subst hp; exact Rch.st (fun _ q => XS.iand X.here hx rfl (hb hby hd) rfl q) H
theorem w_ixor {pc' : Nat} {x y : Int32} (X : Stand p l e R s m args below meth c T locs cells slots) (hx : p.tables.exec = Jvm.exec) (hby : c.code = b) (hd : decode b pc = .ok (.ixor, 1)) (hp : pc + 1 = pc') (H : Rch p e below T (mkF m pc' Ls (.int (x ^^^ y) :: st)) P) : Rch p e below T (mkF m pc Ls (.int y :: .int x :: st)) P := by subst hp; exact Rch.st (fun _ q => XT.ixor X.here hx rfl (hb hby hd) rfl q) H
theorem w_ishl {pc' : Nat} {x y : Int32} (X : Stand p l e R s m args below meth c T locs cells slots) (hx : p.tables.exec = Jvm.exec) (hby : c.code = b) (hd : decode b pc = .ok (.ishl, 1)) (hp : pc + 1 = pc') (H : Rch p e below T (mkF m pc' Ls (.int (x <<< (y &&& 31)) :: st)) P) : Rch p e below T (mkF m pc Ls (.int y :: .int x :: st)) P := by subst hp; exact Rch.st (fun _ q => XT.ishl X.here hx rfl (hb hby hd) rfl q) H
theorem w_ishr {pc' : Nat} {x y : Int32} (X : Stand p l e R s m args below meth c T locs cells slots) (hx : p.tables.exec = Jvm.exec) (hby : c.code = b) (hd : decode b pc = .ok (.ishr, 1)) (hp : pc + 1 = pc') (H : Rch p e below T (mkF m pc' Ls (.int (x >>> (y &&& 31)) :: st)) P) : Rch p e below T (mkF m pc Ls (.int y :: .int x :: st)) P := by subst hp; exact Rch.st (fun _ q => XT.ishr X.here hx rfl (hb hby hd) rfl q) H
theorem w_iushr {pc' : Nat} {x y : Int32} (X : Stand p l e R s m args below meth c T locs cells slots) (hx : p.tables.exec = Jvm.exec) (hby : c.code = b) (hd : decode b pc = .ok (.iushr, 1)) (hp : pc + 1 = pc') (H : Rch p e below T (mkF m pc' Ls (.int (XT.ushr x y) :: st)) P) : Rch p e below T (mkF m pc Ls (.int y :: .int x :: st)) P := by subst hp; exact Rch.st (fun _ q => XT.iushr X.here hx rfl (hb hby hd) rfl q) H
theorem w_i2c {pc' : Nat} {x : Int32} (X : Stand p l e R s m args below meth c T locs cells slots) (hx : p.tables.exec = Jvm.exec) (hby : c.code = b) (hd : decode b pc = .ok (.i2c, 1)) (hp : pc + 1 = pc') (H : Rch p e below T (mkF m pc' Ls (.int (nar .char x) :: st)) P) : Rch p e below T (mkF m pc Ls (.int x :: st)) P := by subst hp; exact Rch.st (fun _ q => XT.i2c X.here hx rfl (hb hby hd) rfl q) H
theorem w_i2b {pc' : Nat} {x : Int32} (X : Stand p l e R s m args below meth c T locs cells slots) (hx : p.tables.exec = Jvm.exec) (hby : c.code = b) (hd : decode b pc = .ok (.i2b, 1)) (hp : pc + 1 = pc') (H : Rch p e below T (mkF m pc' Ls (.int (x.toInt8.toInt32) :: st)) P) : Rch p e below T (mkF m pc Ls (.int x :: st)) P := by subst hp; exact Rch.st (fun _ q => XT.i2b X.here hx rfl (hb hby hd) rfl q) H
theorem w_dup {pc' : Nat} {v : Value} (X : Stand p l e R s m args below meth c T locs cells slots) (hx : p.tables.exec = Jvm.exec) (hby : c.code = b) (hd : decode b pc = .ok (.dup, 1)) (hc : v.category = 1) (hp : pc + 1 = pc') (H : Rch p e below T (mkF m pc' Ls (v :: v :: st)) P) : Rch p e below T (mkF m pc Ls (v :: st)) P := by subst hp; exact Rch.st (fun _ q => XS.dup X.here hx rfl (hb hby hd) rfl hc q) H
theorem w_pop {pc' : Nat} {v : Value} (X : Stand p l e R s m args below meth c T locs cells slots) (hx : p.tables.exec = Jvm.exec) (hby : c.code = b) (hd : decode b pc = .ok (.pop, 1)) (hc : v.category = 1) (hp : pc + 1 = pc') (H : Rch p e below T (mkF m pc' Ls st) P) : Rch p e below T (mkF m pc Ls (v :: st)) P := by subst hp; exact Rch.st (fun _ q => XT.pop X.here hx rfl (hb hby hd) rfl hc q) H
theorem w_iinc {pc' : Nat} {k : Nat} {i : Int} {v : Int32} {w : Int32} (X : Stand p l e R s m args below meth c T locs cells slots) (hx : p.tables.exec = Jvm.exec) (hby : c.code = b) (hd : decode b pc = .ok (.iinc k i, 3)) (hl : Ls[k]? = some (.val (.int v))) (hw : v + Int32.ofInt i = w) (hs : storeLocals Ls k (.int w) = some l') (hp : pc + 3 = pc') (H : Rch p e below T (mkF m pc' l' st) P) : Rch p e below T (mkF m pc Ls st) P := by subst hp hw; exact Rch.st (fun _ q => XS.iinc X.here hx rfl (hb hby hd) hl hs q) H
theorem w_goto {pc' : Nat} {o : Int}  (X : Stand p l e R s m args below meth c T locs cells slots) (hx : p.tables.exec = Jvm.exec) (hby : c.code = b) (hd : decode b pc = .ok (.goto o, 3)) (ho : 0 ≤ (pc : Int) + o ∧ ((pc : Int) + o).toNat = pc') (H : Rch p e below T (mkF m pc' Ls st) P) : Rch p e below T (mkF m pc Ls st) P := Rch.st (fun _ q => XS.goto X.here hx rfl (pc0 := pc) rfl (hb hby hd)  ho.1 ho.2 q) H
theorem w_ifYes {pc' : Nat} {o : Int} {cd : ClassFile.Cond} {x : Int32} (X : Stand p l e R s m args below meth c T locs cells slots) (hx : p.tables.exec = Jvm.exec) (hby : c.code = b) (hd : decode b pc = .ok (.ifCond cd o, 3)) (hc : ifCond.holds cd x = true) (ho : 0 ≤ (pc : Int) + o ∧ ((pc : Int) + o).toNat = pc') (H : Rch p e below T (mkF m pc' Ls st) P) : Rch p e below T (mkF m pc Ls (.int x :: st)) P := Rch.st (fun _ q => XS.ifYes X.here hx rfl (pc0 := pc) rfl (hb hby hd) rfl hc ho.1 ho.2 q) H
theorem w_icmpYes {pc' : Nat} {o : Int} {cd : ClassFile.Cond} {x y : Int32} (X : Stand p l e R s m args below meth c T locs cells slots) (hx : p.tables.exec = Jvm.exec) (hby : c.code = b) (hd : decode b pc = .ok (.if_icmp cd o, 3)) (hc : if_icmp.holds cd x y = true) (ho : 0 ≤ (pc : Int) + o ∧ ((pc : Int) + o).toNat = pc') (H : Rch p e below T (mkF m pc' Ls st) P) : Rch p e below T (mkF m pc Ls (.int y :: .int x :: st)) P := Rch.st (fun _ q => XS.icmpYes X.here hx rfl (pc0 := pc) rfl (hb hby hd) rfl hc ho.1 ho.2 q) H
theorem w_nullYes {pc' : Nat} {o : Int} {v : Value} (X : Stand p l e R s m args below meth c T locs cells slots) (hx : p.tables.exec = Jvm.exec) (hby : c.code = b) (hd : decode b pc = .ok (.ifnull o, 3)) (hv : v = .null) (ho : 0 ≤ (pc : Int) + o ∧ ((pc : Int) + o).toNat = pc') (H : Rch p e below T (mkF m pc' Ls st) P) : Rch p e below T (mkF m pc Ls (v :: st)) P := Rch.st (fun _ q => XT.nullYes X.here hx rfl (pc0 := pc) rfl (hb hby hd) rfl hv ho.1 ho.2 q) H
theorem w_nonnullYes {pc' : Nat} {o : Int} {v : Value} (X : Stand p l e R s m args below meth c T locs cells slots) (hx : p.tables.exec = Jvm.exec) (hby : c.code = b) (hd : decode b pc = .ok (.ifnonnull o, 3)) (h1 : v.isRef = true) (hv : ¬ v = .null) (ho : 0 ≤ (pc : Int) + o ∧ ((pc : Int) + o).toNat = pc') (H : Rch p e below T (mkF m pc' Ls st) P) : Rch p e below T (mkF m pc Ls (v :: st)) P := Rch.st (fun _ q => XT.nonnullYes X.here hx rfl (pc0 := pc) rfl (hb hby hd) rfl h1 hv ho.1 ho.2 q) H
theorem w_ifNo {pc' : Nat} {o : Int} {cd : ClassFile.Cond} {x : Int32} (X : Stand p l e R s m args below meth c T locs cells slots) (hx : p.tables.exec = Jvm.exec) (hby : c.code = b) (hd : decode b pc = .ok (.ifCond cd o, 3)) (hc : ifCond.holds cd x = false) (hp : pc + 3 = pc') (H : Rch p e below T (mkF m pc' Ls st) P) : Rch p e below T (mkF m pc Ls (.int x :: st)) P := by subst hp; exact Rch.st (fun _ q => XS.ifNo X.here hx rfl (hb hby hd) rfl hc q) H
theorem w_icmpNo {pc' : Nat} {o : Int} {cd : ClassFile.Cond} {x y : Int32} (X : Stand p l e R s m args below meth c T locs cells slots) (hx : p.tables.exec = Jvm.exec) (hby : c.code = b) (hd : decode b pc = .ok (.if_icmp cd o, 3)) (hc : if_icmp.holds cd x y = false) (hp : pc + 3 = pc') (H : Rch p e below T (mkF m pc' Ls st) P) : Rch p e below T (mkF m pc Ls (.int y :: .int x :: st)) P := by subst hp; exact Rch.st (fun _ q => XS.icmpNo X.here hx rfl (hb hby hd) rfl hc q) H
theorem w_acmpNo {pc' : Nat} {o : Int} {cd : ClassFile.ACond} {x y : Value} (X : Stand p l e R s m args below meth c T locs cells slots) (hx : p.tables.exec = Jvm.exec) (hby : c.code = b) (hd : decode b pc = .ok (.if_acmp cd o, 3)) (h1 : x.isRef = true) (h2 : y.isRef = true) (hc : XT.acmp cd x y = false) (hp : pc + 3 = pc') (H : Rch p e below T (mkF m pc' Ls st) P) : Rch p e below T (mkF m pc Ls (y :: x :: st)) P := by subst hp; exact Rch.st (fun _ q => XT.acmpNo X.here hx rfl (hb hby hd) rfl h1 h2 hc q) H
theorem w_nullNo {pc' : Nat} {o : Int} {v : Value} (X : Stand p l e R s m args below meth c T locs cells slots) (hx : p.tables.exec = Jvm.exec) (hby : c.code = b) (hd : decode b pc = .ok (.ifnull o, 3)) (h1 : v.isRef = true) (hv : ¬ v = .null) (hp : pc + 3 = pc') (H : Rch p e below T (mkF m pc' Ls st) P) : Rch p e below T (mkF m pc Ls (v :: st)) P := by subst hp; exact Rch.st (fun _ q => XT.nullNo X.here hx rfl (hb hby hd) rfl h1 hv q) H
theorem w_nonnullNo {pc' : Nat} {o : Int} {v : Value} (X : Stand p l e R s m args below meth c T locs cells slots) (hx : p.tables.exec = Jvm.exec) (hby : c.code = b) (hd : decode b pc = .ok (.ifnonnull o, 3)) (hv : v = .null) (hp : pc + 3 = pc') (H : Rch p e below T (mkF m pc' Ls st) P) : Rch p e below T (mkF m pc Ls (v :: st)) P := by subst hp; exact Rch.st (fun _ q => XT.nonnullNo X.here hx rfl (hb hby hd) rfl hv q) H
end OwnSteps
section OwnWide
variable {p : Program} {l : Launch} {e : Env} {R : Room} {s : State} {m : MethodId} {args : Array Value} {below : List Frame} {meth : Method} {c : Code} {T Z : State} {locs : List Loc} {cells slots : Nat} {vm1 : Vm} {Ts Ts' : List String} {a0 : Array Value} {h : Heap}
/-- a return under the wide frame -/
def FinW (s : State) (Q : Option Value → Heap → Vm → List Loc → Prop) (K N : Nat) (o : Outcome) (U : State) : Prop := ∃ v L, o = .returned v ∧ Q v U.heap U.vm L ∧ ReturnedEndW s o U L K N
theorem Rch.retVW (X : Stand p l e R (s.setVm vm1) m args below meth c T locs cells slots) (hx : p.tables.exec = Jvm.exec) {k0 : Nat} (hS : s.Since vm1 k0) (hk0 : k0 ≤ T.heap.size) {pc : Nat} {Ls : Array Slot} {w : Value} {t : FieldType} {i : Instr} {rest : List Value} {Q : Option Value → Heap → Vm → List Loc → Prop} {K N : Nat} (hret : meth.sig.returnType = some t) (hn : narrow t w = w)
    (hi : (i = .ireturn ∧ (t = .int ∨ t = .boolean ∨ t = .byte ∨ t = .char ∨ t = .short) ∧ ∃ z, w = .int z) ∨ (i = .lreturn ∧ t = .long ∧ ∃ z, w = .long z) ∨ (i = .dreturn ∧ t = .double ∧ ∃ z, w = .double z) ∨ (i = .freturn ∧ t = .float ∧ ∃ z, w = .float z) ∨ (i = .areturn ∧ t.isReference = true ∧ w.isRef = true))
    (hd : decode c.code pc = .ok (i, 1)) (hq : Q (some w) T.heap T.vm locs) (hk : cells ≤ K) (hs : slots ≤ N) (hlocks : meth.locks = false := by first | assumption | exact BodyLoose.notSynchronized (by assumption) | exact Body.notSynchronized (by assumption)) : Rch p e below T (mkF m pc Ls (w :: rest)) (FinW s Q K N) := by
  obtain ⟨fs, hr, hrun, hended, h1, h2, h3, h4⟩ := X.leaveW hS hk0 (v := some w) (fun h => by rw [hret] at h; cases h) hlocks
  exact ⟨_, _, retOut X hx hret hn hi hd hr, hrun, hended, _, _, rfl, hq, h1, h2, h3, h4.mono hk hs⟩
theorem Rch.ret0W (X : Stand p l e R (s.setVm vm1) m args below meth c T locs cells slots) (hx : p.tables.exec = Jvm.exec) {k0 : Nat} (hS : s.Since vm1 k0) (hk0 : k0 ≤ T.heap.size) {pc : Nat} {Ls : Array Slot} {Q : Option Value → Heap → Vm → List Loc → Prop} {K N : Nat} (hret : meth.sig.returnType = none)
    (hd : decode c.code pc = .ok (.return_, 1)) (hq : Q none T.heap T.vm locs) (hk : cells ≤ K) (hs : slots ≤ N) (hlocks : meth.locks = false := by first | assumption | exact BodyLoose.notSynchronized (by assumption) | exact Body.notSynchronized (by assumption)) : Rch p e below T (mkF m pc Ls []) (FinW s Q K N) := by
  obtain ⟨fs, hr, hrun, hended, h1, h2, h3, h4⟩ := X.leaveW hS hk0 (v := none) (fun _ => rfl) hlocks
  exact ⟨_, _, X.returnOut hx hret hd hr, hrun, hended, _, _, rfl, hq, h1, h2, h3, h4.mono hk hs⟩
theorem own_ib {vm : Vm} (I : IB Z s.vm Ts) (hW : s.WarmedH vm) : IB Z vm Ts := by
  obtain ⟨more, h1, h2⟩ := I
  exact ⟨more, by rw [hW.interned_eq]; exact h1, h2⟩
theorem own_ib_mono {vm : Vm} (I : IB Z vm Ts) (hs : ∀ t ∈ Ts, t ∈ Ts') : IB Z vm Ts' := by
  obtain ⟨more, h1, h2⟩ := I
  exact ⟨more, h1, fun q hq => let ⟨t, ht, hd⟩ := h2 q hq; ⟨t, hs t ht, hd⟩⟩
theorem backOfI {y : MethodName} {bytes : ByteArray} {maxL : Nat} {ret : Option FieldType} {rm : Room} {len W : Nat} {as' : Array Value} {Q : Option Value → Heap → Vm → List Loc → Prop}
    (hM : MetFree l y (head1 [Cond.code y bytes maxL ret] rm) (fun a U => a = as' ∧ Z.Warmed39 U.vm ∧ U.heap = h ∧ IB Z U.vm Ts) (fun _ _ _ _ _ => True) (fun _ U o U' => ∃ v L, o = .returned v ∧ Q v U'.heap U'.vm L ∧ ReturnedEndW U o U' L rm.cells rm.slots))
    (hZ : Z.Warmed39 s.vm) (hI : IB Z s.vm Ts) (wc : (Cond.code y bytes maxL ret).before a0 Z = true) (wz : (Cond.initialized y.cls).before a0 Z = true) (hf : rm.frames + 1 ≤ R.frames) (hl : W + (maxL + 11) + rm.locals ≤ R.locals) :
    BackS l R p e below s args y len W (fun A a => a = as' ∧ A.U.heap = h ∧ A.cells + rm.cells ≤ R.cells ∧ A.slots + rm.slots ≤ R.slots)
      (fun A _ v B => ∃ L, Q v B.U.heap B.U.vm L ∧ B.locs = A.locs ++ L ∧ B.cells = A.cells + rm.cells ∧ B.slots = A.slots + rm.slots) :=
  BackS.of_freeW (bytes := bytes) (maxL := maxL) (ret := ret) (E := fun _ _ o t L k n => k = rm.cells ∧ n = rm.slots ∧ ∃ v, o = .returned v ∧ Q v t.heap t.vm L) hM hf hl
    (fun m meth c A a Y hp => have hU : Z.Warmed39 A.U.vm := wtrans hZ Y.warmed
      ⟨by show (Cond.and _ .tt).before a A.U = true; rw [Cond.before_and, mv hU wc]; rfl, mv hU wc, mv hU wz, hp.2.2.1, hp.2.2.2⟩)
    (fun m meth c A a g mk Y hp => ⟨hp.1, wtrans hZ Y.warmed, hp.2.1, own_ib hI Y.warmed⟩) (fun _ _ _ _ _ _ _ _ _ => trivial)
    (fun _ _ _ _ ⟨v, L, h1, h2, h3⟩ => ⟨L, _, _, h3, rfl, rfl, v, h1, h2⟩)
    (fun m meth c A a g mk v t L k n Y hp _ _ ⟨e1, e2, v', e3, e4⟩ => by cases e3; subst e1 e2; exact ⟨L, e4, rfl, rfl, rfl⟩)
theorem backOfV {PV : Vm → Prop} {y : MethodName} {bytes : ByteArray} {maxL : Nat} {ret : Option FieldType} {rm : Room} {len W : Nat} {as' : Array Value} {Q : Option Value → Heap → Vm → List Loc → Prop}
    (hM : MetFree l y (head1 [Cond.code y bytes maxL ret] rm) (fun a U => a = as' ∧ Z.Warmed39 U.vm ∧ U.heap = h ∧ PV U.vm) (fun _ _ _ _ _ => True) (fun _ U o U' => ∃ v L, o = .returned v ∧ Q v U'.heap U'.vm L ∧ ReturnedEndW U o U' L rm.cells rm.slots))
    (hZ : Z.Warmed39 s.vm) (hI : ∀ vm, s.WarmedH vm → PV vm) (wc : (Cond.code y bytes maxL ret).before a0 Z = true) (wz : (Cond.initialized y.cls).before a0 Z = true) (hf : rm.frames + 1 ≤ R.frames) (hl : W + (maxL + 11) + rm.locals ≤ R.locals) :
    BackS l R p e below s args y len W (fun A a => a = as' ∧ A.U.heap = h ∧ A.cells + rm.cells ≤ R.cells ∧ A.slots + rm.slots ≤ R.slots)
      (fun A _ v B => ∃ L, Q v B.U.heap B.U.vm L ∧ B.locs = A.locs ++ L ∧ B.cells = A.cells + rm.cells ∧ B.slots = A.slots + rm.slots) :=
  BackS.of_freeW (bytes := bytes) (maxL := maxL) (ret := ret) (E := fun _ _ o t L k n => k = rm.cells ∧ n = rm.slots ∧ ∃ v, o = .returned v ∧ Q v t.heap t.vm L) hM hf hl
    (fun m meth c A a Y hp => have hU : Z.Warmed39 A.U.vm := wtrans hZ Y.warmed
      ⟨by show (Cond.and _ .tt).before a A.U = true; rw [Cond.before_and, mv hU wc]; rfl, mv hU wc, mv hU wz, hp.2.2.1, hp.2.2.2⟩)
    (fun m meth c A a g mk Y hp => ⟨hp.1, wtrans hZ Y.warmed, hp.2.1, hI _ Y.warmed⟩) (fun _ _ _ _ _ _ _ _ _ => trivial)
    (fun _ _ _ _ ⟨v, L, h1, h2, h3⟩ => ⟨L, _, _, h3, rfl, rfl, v, h1, h2⟩)
    (fun m meth c A a g mk v t L k n Y hp _ _ ⟨e1, e2, v', e3, e4⟩ => by cases e3; subst e1 e2; exact ⟨L, e4, rfl, rfl, rfl⟩)
/-- a booked literal stays booked, said of the start's state -/
theorem own_lit {own : String} {index : Nat} {a : Addr} {vm vm' : Vm} (L : Lit (Z.setVm vm) own index a) (hW : (s.setVm vm).Warmed39 vm') : Lit (Z.setVm vm') own index a := Lit.stays (s := s) (vm0 := vm) (vm1 := vm') L hW
end OwnWide
theorem nlt {a b c : Nat} (h : a < b) (k : b ≤ c) : a ≠ c := Nat.ne_of_lt (Nat.lt_of_lt_of_le h k)
theorem wi {Z : State} {a0 : Array Value} (hw : ∀ d ∈ tables_1, d.before a0 Z = true) (i : Nat) {d : Jvm.Cond} (h : tables_1[i]? = some d) : d.before a0 Z = true := hw _ (List.mem_of_getElem? h)
abbrev vI (x : Int32) : Slot := .val (.int x)
abbrev vR (a : Addr) : Slot := .val (.ref a)
abbrev vN : Slot := .val .null
abbrev U : Slot := .unset
abbrev Rm (f c s l : Nat) : Room := { frames := f, cells := c, slots := s, locals := l }
abbrev MetN (l : Launch) (Z : State) (y : MethodName) (code : ByteArray) (n : Nat) (ret : Option FieldType) (ws : List Jvm.Cond) (rm : Room) (as : Array Value) (h0 : Heap) (Q : Option Value → Heap → List Loc → Prop) : Prop :=
  MetFree l y (head1 (Jvm.Cond.code y code n ret :: ws) rm) (fun a U => a = as ∧ Z.Warmed39 U.vm ∧ U.heap = h0) (fun _ _ _ _ _ => True) (fun _ U o U' => ∃ v L, o = .returned v ∧ Q v U'.heap L ∧ FrameEnd U o U' L rm.cells rm.slots)
abbrev MetW (l : Launch) (Z : State) (y : MethodName) (code : ByteArray) (n : Nat) (ret : Option FieldType) (ws : List Jvm.Cond) (rm : Room) (as : Array Value) (h0 : Heap) (PV : Vm → Prop) (Q : Option Value → Heap → Vm → List Loc → Prop) : Prop :=
  MetFree l y (head1 (Jvm.Cond.code y code n ret :: ws) rm) (fun a U => a = as ∧ Z.Warmed39 U.vm ∧ U.heap = h0 ∧ PV U.vm) (fun _ _ _ _ _ => True) (fun _ U o U' => ∃ v L, o = .returned v ∧ Q v U'.heap U'.vm L ∧ ReturnedEndW U o U' L rm.cells rm.slots)
abbrev y_0 : MethodName := ⟨"java/util/function/Function", "apply", "(Ljava/lang/Object;)Ljava/lang/Object;"⟩
abbrev y_1 : MethodName := ⟨"com/example/mandoline/mandoline/Variable", "lambda$addField$0", "(Lcom/example/mandoline/mandoline/Place$Field;Ljava/lang/String;)Lcom/example/mandoline/mandoline/Variable;"⟩
abbrev y_2 : MethodName := ⟨"java/lang/String", "coder", "()B"⟩
abbrev y_3 : MethodName := ⟨"java/lang/String", "length", "()I"⟩
abbrev y_4 : MethodName := ⟨"java/lang/StringUTF16", "coderFromArrayLen", "([BI)B"⟩
abbrev y_5 : MethodName := ⟨"java/lang/String", "isLatin1", "()Z"⟩
abbrev y_6 : MethodName := ⟨"java/lang/Math", "min", "(II)I"⟩
abbrev y_7 : MethodName := ⟨"java/util/Arrays", "checkLength", "(II)V"⟩
abbrev y_8 : MethodName := ⟨"java/util/Arrays", "copyOfRangeByte", "([BII)[B"⟩
abbrev y_9 : MethodName := ⟨"java/util/Arrays", "copyOfRange", "([BII)[B"⟩
abbrev y_10 : MethodName := ⟨"java/lang/AbstractStringBuilder", "<init>", "(I)V"⟩
abbrev y_11 : MethodName := ⟨"java/lang/StringBuilder", "<init>", "()V"⟩
abbrev y_12 : MethodName := ⟨"java/lang/AbstractStringBuilder", "ensureCapacityInternal", "(I)V"⟩
abbrev y_13 : MethodName := ⟨"java/lang/AbstractStringBuilder", "inflateIfNeededFor", "(Ljava/lang/String;)V"⟩
abbrev y_14 : MethodName := ⟨"java/lang/String", "getBytes", "([BIB)V"⟩
abbrev y_15 : MethodName := ⟨"java/lang/AbstractStringBuilder", "putStringAt", "(ILjava/lang/String;)V"⟩
abbrev y_16 : MethodName := ⟨"java/lang/AbstractStringBuilder", "append", "(Ljava/lang/String;)Ljava/lang/AbstractStringBuilder;"⟩
abbrev y_17 : MethodName := ⟨"java/lang/StringBuilder", "append", "(Ljava/lang/String;)Ljava/lang/StringBuilder;"⟩
abbrev y_18 : MethodName := ⟨"java/lang/AbstractStringBuilder", "getValue", "()[B"⟩
abbrev y_19 : MethodName := ⟨"java/lang/AbstractStringBuilder", "length", "()I"⟩
abbrev y_20 : MethodName := ⟨"java/lang/StringBuilder", "length", "()I"⟩
abbrev y_21 : MethodName := ⟨"java/lang/AbstractStringBuilder", "isLatin1", "()Z"⟩
abbrev y_22 : MethodName := ⟨"java/lang/String", "<init>", "(Ljava/lang/AbstractStringBuilder;Ljava/lang/Void;)V"⟩
abbrev y_23 : MethodName := ⟨"java/lang/String", "<init>", "(Ljava/lang/StringBuilder;)V"⟩
abbrev y_24 : MethodName := ⟨"java/lang/StringBuilder", "toString", "()Ljava/lang/String;"⟩
abbrev y_25 : MethodName := ⟨"java/lang/StringUTF16", "compress", "([CI[BII)I"⟩
abbrev y_26 : MethodName := ⟨"java/lang/StringUTF16", "compress", "([CII)[B"⟩
abbrev y_27 : MethodName := ⟨"java/lang/String", "<init>", "([CIILjava/lang/Void;)V"⟩
abbrev y_28 : MethodName := ⟨"java/lang/String", "<init>", "([C)V"⟩
abbrev y_29 : MethodName := ⟨"com/example/mandoline/mandoline/VariableFunctionPinLaw", "str2", "(I)Ljava/lang/String;"⟩
abbrev y_30 : MethodName := ⟨"java/lang/String", "equals", "(Ljava/lang/Object;)Z"⟩
abbrev y_31 : MethodName := ⟨"com/example/mandoline/mandoline/VariableFunctionPinLaw", "same", "(Ljava/lang/String;Ljava/lang/String;)Z"⟩
abbrev y_32 : MethodName := ⟨"java/util/AbstractMap", "<init>", "()V"⟩
abbrev y_33 : MethodName := ⟨"java/util/HashMap", "<init>", "()V"⟩
abbrev y_34 : MethodName := ⟨"java/util/LinkedHashMap", "<init>", "()V"⟩
abbrev y_35 : MethodName := ⟨"java/util/List", "of", "()Ljava/util/List;"⟩
abbrev y_36 : MethodName := ⟨"com/example/mandoline/mandoline/Variable", "<init>", "(Ljava/lang/String;Lcom/example/mandoline/mandoline/ClangNode;Ljava/lang/String;Lcom/example/mandoline/mandoline/Variable;)V"⟩
abbrev y_37 : MethodName := ⟨"java/lang/Record", "<init>", "()V"⟩
abbrev y_38 : MethodName := ⟨"com/example/mandoline/mandoline/Place$Field", "<init>", "(Ljava/lang/String;Ljava/lang/String;)V"⟩
abbrev y_39 : MethodName := ⟨"com/example/mandoline/mandoline/Place$Field", "key", "()Ljava/lang/String;"⟩
abbrev y_40 : MethodName := ⟨"com/example/mandoline/mandoline/Place$Field", "name", "()Ljava/lang/String;"⟩
abbrev y_41 : MethodName := ⟨"java/lang/String", "isEmpty", "()Z"⟩
abbrev y_42 : MethodName := ⟨"jdk/internal/util/ArraysSupport", "signedHashCode", "(I[BII)I"⟩
abbrev y_43 : MethodName := ⟨"jdk/internal/util/ArraysSupport", "vectorizedHashCode", "(Ljava/lang/Object;IIII)I"⟩
abbrev y_44 : MethodName := ⟨"java/lang/StringLatin1", "hashCode", "([B)I"⟩
abbrev y_45 : MethodName := ⟨"java/lang/String", "hashCode", "()I"⟩
abbrev y_46 : MethodName := ⟨"java/util/HashMap", "hash", "(Ljava/lang/Object;)I"⟩
abbrev y_47 : MethodName := ⟨"java/lang/Object", "hashCode", "()I"⟩
abbrev y_48 : MethodName := ⟨"java/util/HashMap", "resize", "()[Ljava/util/HashMap$Node;"⟩
abbrev y_49 : MethodName := ⟨"java/util/HashMap$Node", "<init>", "(ILjava/lang/Object;Ljava/lang/Object;Ljava/util/HashMap$Node;)V"⟩
abbrev y_50 : MethodName := ⟨"java/util/LinkedHashMap$Entry", "<init>", "(ILjava/lang/Object;Ljava/lang/Object;Ljava/util/HashMap$Node;)V"⟩
abbrev y_51 : MethodName := ⟨"java/util/LinkedHashMap", "linkNodeAtEnd", "(Ljava/util/LinkedHashMap$Entry;)V"⟩
abbrev y_52 : MethodName := ⟨"java/util/LinkedHashMap", "newNode", "(ILjava/lang/Object;Ljava/lang/Object;Ljava/util/HashMap$Node;)Ljava/util/HashMap$Node;"⟩
abbrev y_53 : MethodName := ⟨"java/util/LinkedHashMap", "removeEldestEntry", "(Ljava/util/Map$Entry;)Z"⟩
abbrev y_54 : MethodName := ⟨"java/util/LinkedHashMap", "afterNodeInsertion", "(Z)V"⟩
abbrev y_55 : MethodName := ⟨"java/util/HashMap", "computeIfAbsent", "(Ljava/lang/Object;Ljava/util/function/Function;)Ljava/lang/Object;"⟩
abbrev y_56 : MethodName := ⟨"java/util/HashMap", "newNode", "(ILjava/lang/Object;Ljava/lang/Object;Ljava/util/HashMap$Node;)Ljava/util/HashMap$Node;"⟩
abbrev y_57 : MethodName := ⟨"java/util/HashMap", "afterNodeInsertion", "(Z)V"⟩
abbrev y_58 : MethodName := ⟨"com/example/mandoline/mandoline/Variable", "addField", "(Lcom/example/mandoline/mandoline/Place$Field;)Lcom/example/mandoline/mandoline/Variable;"⟩
abbrev y_59 : MethodName := ⟨"java/util/Map", "computeIfAbsent", "(Ljava/lang/Object;Ljava/util/function/Function;)Ljava/lang/Object;"⟩
abbrev y_60 : MethodName := ⟨"com/example/mandoline/mandoline/Variable", "<init>", "(Ljava/lang/String;Lcom/example/mandoline/mandoline/ClangNode;Ljava/lang/String;)V"⟩
abbrev y_61 : MethodName := ⟨"com/example/mandoline/mandoline/Variable", "<init>", "(Ljava/lang/String;Lcom/example/mandoline/mandoline/ClangNode;)V"⟩
abbrev y_62 : MethodName := ⟨"com/example/mandoline/mandoline/Variable", "function", "()Ljava/lang/String;"⟩
/-- the class that the rule has made stays made under wider tables -/
theorem own_made {Z : State} {vm' : Vm} (hW : Z.Warmed39 vm') {d c : ClassId} {σ : Lambda.Shape} (h : Lambda.isMade { classPath := fun _ => none } Z.vm d σ c = true) : Lambda.isMade { classPath := fun _ => none } vm' d σ c = true := by
  have hA := hW.alike
  have key : ∀ k : Class, Z.vm.classes[c]? = some k → ∃ k' : Class, vm'.classes[c]? = some k' ∧ k' = { k with resolved := k'.resolved, nestHost := k'.nestHost, nestHostError := k'.nestHostError } ∧ ∀ i r, k.resolved[i]? = some (some r) → k'.resolved[i]? = some (some r) := fun k hk => by
    obtain ⟨k', h1, h2, -, h3, -⟩ := hW.2.2.2 _ _ hk
    exact ⟨k', h1, h2, fun i r q => (h3 i).elim (fun e => e.trans q) fun e => absurd (e.1.symm.trans q) (by simp)⟩
  unfold Lambda.isMade at h ⊢
  cases hd : Z.vm.classes[d]? with
  | none => simp [hd] at h
  | some dk =>
  cases hc : Z.vm.classes[c]? with
  | none => simp [hd, hc] at h
  | some k =>
  obtain ⟨dk', hd', ed⟩ := hA.2.2 _ _ hd
  obtain ⟨k', hc', ek, hr⟩ := key k hc
  have n1 : dk'.name = dk.name := by rw [ed]
  rw [hd', hc']
  rw [hd, hc] at h
  simp only [Option.bind_eq_bind, Option.bind_some, n1, hA.findClass] at h ⊢
  have hcf : k'.cf = k.cf := by rw [ek]
  rw [hcf]
  cases hf : k.cf with
  | none => simp [hf] at h
  | some file =>
  rw [hf] at h
  simp only [Option.bind_some] at h ⊢
  cases hs : σ.file dk.name with
  | none => simp [hs] at h
  | some cf =>
  rw [hs] at h
  simp only [Option.bind_some] at h ⊢
  cases ho : Z.vm.findClass "java/lang/Object" with
  | none => simp [ho] at h
  | some ob =>
  cases hi : Z.vm.findClass σ.iface with
  | none => simp [ho, hi] at h
  | some fc =>
  rw [ho, hi] at h
  simp only [Option.bind_some] at h ⊢
  cases hob : Z.vm.classes[ob]? with
  | none => simp [hob] at h
  | some okc =>
  obtain ⟨okc', hob', eo⟩ := hA.2.2 _ _ hob
  have n2 : okc'.instanceTypes = okc.instanceTypes := by rw [eo]
  rw [hob']
  rw [hob] at h
  simp only [Option.bind_some, n2] at h ⊢
  cases hl : layoutFields cf okc.instanceTypes.size with
  | none => simp [hl] at h
  | some lay =>
  cases hm : layoutMethods cf with
  | none => simp [hl, hm] at h
  | some ms =>
  cases ht : Z.vm.findClass σ.implClass with
  | none => simp [hl, hm, ht] at h
  | some tc =>
  rw [hl, hm, ht] at h
  simp only [Option.bind_some] at h ⊢
  cases htc : Z.vm.classes[tc]? with
  | none => simp [htc] at h
  | some tk =>
  obtain ⟨tk', htc', et⟩ := hA.2.2 _ _ htc
  have n3 : tk'.isInterface = tk.isInterface := by rw [et]; rfl
  rw [htc']
  rw [htc] at h
  simp only [Option.bind_some, n3, Lambda.methodIn_ask_alike hA, Lambda.resolvedOf_alike hA, hA.selectMethod] at h ⊢
  have e1 : ∀ {α : Type} (f : Class → α), (∀ (q : Class) r n1 n2, f { q with resolved := r, nestHost := n1, nestHostError := n2 } = f q) → f k' = f k := fun f hf => by rw [ek]; exact hf _ _ _ _
  rw [e1 (·.name) (fun _ _ _ _ => rfl), e1 (·.kind) (fun _ _ _ _ => rfl), e1 (·.accessFlags) (fun _ _ _ _ => rfl), e1 (·.super) (fun _ _ _ _ => rfl), e1 (·.interfaces) (fun _ _ _ _ => rfl), e1 (·.init) (fun _ _ _ _ => rfl), e1 (·.loader) (fun _ _ _ _ => rfl), e1 (·.hidden) (fun _ _ _ _ => rfl), e1 (·.linked) (fun _ _ _ _ => rfl), e1 (·.callSites) (fun _ _ _ _ => rfl), e1 (·.invokers) (fun _ _ _ _ => rfl), e1 (·.methods) (fun _ _ _ _ => rfl), e1 (·.fields) (fun _ _ _ _ => rfl), e1 (·.instanceTypes) (fun _ _ _ _ => rfl), e1 (·.staticTypes) (fun _ _ _ _ => rfl)]
  revert h
  generalize ((Lambda.resolvedOf { classPath := fun _ => none } Z.vm cf lay.1 c).toList.zipIdx) = Lz
  have ha : ∀ Lx : List (Option Resolved × Nat), (Lx.all fun x => x.1.isNone || decide (k.resolved[x.2]? = some x.1)) = true → (Lx.all fun x => x.1.isNone || decide (k'.resolved[x.2]? = some x.1)) = true := fun Lx q => by
    rw [List.all_eq_true] at q ⊢
    intro y hy
    have z := q y hy
    obtain ⟨x, i⟩ := y
    cases x with
    | none => rfl
    | some r =>
      simp only [Option.isNone_some, Bool.false_or, decide_eq_true_eq] at z ⊢
      exact hr _ _ z
  split
  · split
    · intro h
      simp only [Option.pure_def, Option.getD_some, Bool.and_eq_true] at h ⊢
      exact ⟨⟨h.1.1, ha _ h.1.2⟩, h.2⟩
    · intro h; simp at h
  · intro h; simp at h
/-- the object of a lambda that holds two captured values -/
def Lam (h : Heap) (o : Addr) (cK : ClassId) (va vb : Value) : Prop := ∃ cell : Cell, h[o]? = some cell ∧ cell.cls = cK ∧ cell.vm = .none ∧ cell.slots = #[va, vb]
theorem Lam.lt {h : Heap} {o : Addr} {cK : ClassId} {va vb : Value} (F : Lam h o cK va vb) : o < h.size := by obtain ⟨_, h1, -⟩ := F; exact (Array.getElem?_eq_some_iff.mp h1).1
theorem Lam.ext {h h' : Heap} {o : Addr} {cK : ClassId} {va vb : Value} (F : Lam h o cK va vb) (E : Ext h h') : Lam h' o cK va vb := by obtain ⟨c, h1, r⟩ := F; exact ⟨c, E.2 _ _ h1, r⟩
theorem Lam.other {h h' : Heap} {o a : Addr} {sl : Nat} {v : Value} {cK : ClassId} {va vb : Value} (F : Lam h o cK va vb) (W : Wr h h' a sl v) (q : o ≠ a) : Lam h' o cK va vb := by
  obtain ⟨c, h1, r⟩ := F
  obtain ⟨c', h2, -, -, -, h3, -⟩ := wr_at W h1
  rw [h3 q] at h2
  exact ⟨c, h2, r⟩
theorem Lam.keep {h h' : Heap} {o : Addr} {ws : List Addr} {cK : ClassId} {va vb : Value} (F : Lam h o cK va vb) (K : Keep h h' ws) (q : o ∉ ws) : Lam h' o cK va vb := by obtain ⟨c, h1, r⟩ := F; exact ⟨c, K.2.1 o c h1 q, r⟩
theorem own_neLen {Z : State} {h : Heap} {a b : Addr} {k k' : ClassId} {ty ty' : FieldType} {n n' : Int32} {vs vs' : List Value} {d d' : Value} (A : Arv Z h a k ty n vs d) (B : Arv Z h b k' ty' n' vs' d') (q : n.toNatClampNeg ≠ n'.toNatClampNeg) : a ≠ b := fun e => by
  subst e
  obtain ⟨c, Ar, -, S, -⟩ := A
  obtain ⟨c', Br, -, S', -⟩ := B
  cases Ar.1.symm.trans Br.1
  exact q (S.symm.trans S')
theorem own_nfI {s : State} {args : Array Value} {y : MethodName} {n : Nat} (w : (Cond.instantiable y.cls n).before args s = true) : NotFace s y := fun r0 h0 => by
  obtain ⟨c2, k2, i1, i2, -, i4, -⟩ := Cond.instantiable_spec w
  have e : r0.cls = c2 := Option.some.inj ((findClass_of_methodNamed h0).symm.trans i1)
  exact ⟨k2, by rw [e]; exact i2, by simp only [Bool.or_eq_false_iff] at i4; exact i4.1⟩
theorem own_madeS {Z s : State} {host : String} {σ : Lambda.Shape} {cK : ClassId} (hZ : Z.Warmed39 s.vm) (h : LamKit.Made Z host σ cK) : LamKit.Made s host σ cK := by
  obtain ⟨d, dk, hd, hdn, hmade, hcan⟩ := h
  have hA := hZ.alike
  obtain ⟨dk', hd', ed⟩ := hA.2.2 _ _ hd
  refine ⟨d, dk', hd', by rw [ed]; exact hdn, own_made hZ hmade, ?_⟩
  simp only [State.lambdaCallable, hA.findClass, hA.assignable, hA.superclasses, hA.declaredIn] at hcan ⊢
  exact hcan
def own_clsOK (σ : Lambda.Shape) (host : String) (i : Nat) (name : String) : Bool :=
  match σ.file host with
  | none => false
  | some D =>
    match D.constantPool[i]? with
    | some (.class_ n) => decide (D.constantPool.string? n = some name) && decide (i ≠ D.thisClass)
    | _ => false
theorem own_made_cls {st : Setting} {vm : Vm} {d c x : ClassId} {dk : Class} {σ : Lambda.Shape} {host name : String} {i : Nat} (hok : own_clsOK σ host i name = true) (hd : vm.classes[d]? = some dk) (hname : dk.name = host) (h : Lambda.isMade st vm d σ c = true) (hf : vm.findClass name = some x) : vm.classReady c i x := by
  obtain ⟨dk', k, ok, tk, file, cf, object, iface, toy, lay, methods, target, found, hd', hk, hfile, hcf, -, -, -, -, -, -, -, -, -, -, -, -, -, -, -, -, -, -, hres, -⟩ := Lambda.isMade_spec h
  cases hd.symm.trans hd'
  rw [hname] at hcf
  unfold own_clsOK at hok
  rw [hcf] at hok
  dsimp only at hok
  split at hok
  · rename_i n hi
    simp only [Bool.and_eq_true, decide_eq_true_eq] at hok
    exact ⟨k, hk, hres i _ (Lambda.resolvedOf_class hi hok.2 hok.1 hf)⟩
  · cases hok
section OwnLam
variable {p : Program} {l : Launch} {e : Env} {R : Room} {s : State} {m : MethodId} {args : Array Value} {below : List Frame} {meth : Method} {c : Code} {T Z : State} {locs : List Loc} {cells slots : Nat} {a0 : Array Value} {h : Heap}
/-- invokedynamic at a site that captures two values: the new object holds them; its class is the one that the start's tables have made -/
theorem own_mkLam (X : Stand p l e R s m args below meth c T locs cells slots) (hx : p.tables.exec = Jvm.exec) (hZ : Z.Warmed39 s.vm) {x : MethodName} {pc index fi : Nat} {σ : Lambda.Shape} (hnamed : s.methodNamed? x = some m)
    (w : (Cond.lambdaSite x pc index σ).before a0 Z = true) {t1 t2 : FieldType} (hcap : σ.captured = [t1, t2]) (hok : LamKit.capOK σ x.cls fi 0 = true) (wO : (Cond.instantiable "java/lang/Object" 0).before a0 Z = true) (eT : T.heap = h)
    {g : JFrame} (hg : g.method = m) (hpc : g.pc = pc) (hsize : g.locals.size = c.maxLocals) (hdg : decode c.code g.pc = .ok (.invokedynamic index, 5)) {va vb : Value} {rest : List Value} (hstack : g.stack = vb :: va :: rest)
    (h1 : narrow t1 va = va ∧ fits t1 va = true) (h2 : narrow t2 vb = vb ∧ fits t2 vb = true) (hwords : 2 * g.monitorRoom + (g.stack.map fun v => v.category).sum + 3072 ≤ R.locals) (hcells : cells + 1 ≤ R.cells) (hslots : slots + 2 ≤ R.slots) :
    ∃ (T' : State) (h' : Heap) (cK : ClassId), LamKit.Made Z x.cls σ cK ∧ Stand p l e R s m args below meth c T' locs (cells + 1) (slots + 2) ∧ T'.heap = h' ∧ Ext h h' ∧ Lam h' h.size cK va vb ∧
      ∀ target, Steps p.tables e below (T'.setTop { g with pc := g.pc + 5, stack := .ref h.size :: rest }) target → Steps p.tables e below (T.setTop g) target := by
  obtain ⟨cK, one, hat⟩ := Cond.lambdaSite_spec w
  obtain ⟨mD, kD, cfD, i0, p0, lk, hmD, hkD, hcfD, hsh, hin, hfind, hmade, hcan, hl⟩ := State.lambdaAt?_spec hat
  have hA := hZ.alike
  obtain ⟨kN, hkN, hnameD⟩ := className_of_methodNamed hmD
  cases hkD.symm.trans hkN
  have hm' : s.methodNamed? x = some mD := by
    have z := State.methodNamed?_setVm (s := Z) hA x
    rw [hmD] at z; exact z
  cases hnamed.symm.trans hm'
  obtain ⟨k', hk', ek⟩ := hA.2.2 _ _ hkD
  rcases hl with ⟨_, _, -, -, hc0, -⟩ | ⟨rfl, -, -⟩
  · rw [hcap] at hc0; cases hc0
  · obtain ⟨b, nt, desc, site, s1, s2, s3, s4⟩ := Lambda.shapeOf?_site hsh
    obtain ⟨kc, f, hkc, hkind, hty, -⟩ := LamKit.made_cap hok hk' (by rw [ek]; exact hnameD) (own_made hZ hmade) (LamKit.noFields (mvT (args := args) hZ wO) (State.WarmedH.refl s))
    have hz : ((kc.instanceTypes.toList.zip [va, vb]).map fun (t, v) => narrow t v) = [va, vb] := by
      rw [hty, hcap]
      show [narrow t1 va, narrow t2 vb] = [va, vb]
      rw [h1.1, h2.1]
    have hw : e.platform.lambdaLinkWords = 3072 := by rw [X.admits.platform]
    have q := X.lambdaMakes hx hg hsize hdg (vals := [va, vb]) (rest := rest) hk' (by rw [hpc, ek]; exact hfind) (by rw [ek]; exact hcfD) s1 s2 (parseLong_of_parse s3) (by rw [s4, hcap]; rfl) hstack hkc (by rw [hw]; exact hwords) hcells (by rw [hz]; exact hslots)
      (fun i v hv => by
        rw [hz] at hv
        have hi : i = 0 ∧ v = va ∨ i = 1 ∧ v = vb := by
          match i, hv with
          | 0, hv => exact Or.inl ⟨rfl, (by simpa using hv.symm)⟩
          | 1, hv => exact Or.inr ⟨rfl, (by simpa using hv.symm)⟩
          | n + 2, hv => simp at hv
        rcases hi with ⟨rfl, rfl⟩ | ⟨rfl, rfl⟩
        · simp [State.fitsSlot, State.slotType?, hkc, hkind, hty, hcap, h1.2]
        · simp [State.fitsSlot, State.slotType?, hkc, hkind, hty, hcap, h2.2])
    rw [hz] at q
    subst eT
    exact ⟨_, _, cK, ⟨_, kD, hkD, hnameD, hmade, hcan⟩, q.1, rfl, ext_of fun a q => Array.getElem?_push_lt q |>.trans (Array.getElem?_eq_getElem q).symm, ⟨({ cls := cK, slots := [va, vb].toArray, vm := .none } : Cell), by show (T.heap.push _)[T.heap.size]? = _; simp, rfl, rfl, rfl⟩, q.2⟩
/-- ldc of a float -/
theorem own_ldcF {g : JFrame} {target : State} (X : Stand p l e R s m args below meth c T locs cells slots) (hx : p.tables.exec = Jvm.exec) {own : String} {index : Nat} {b : UInt32} (hown : s.vm.findClass own = some m.cls) (hconst : (Cond.constantFloat own index b).before args s = true) (hg : g.method = m) (hd : decode c.code g.pc = .ok (.ldc index, 2))
    (hr : Steps p.tables e below (T.setTop { g with pc := g.pc + 2, stack := .float b :: g.stack }) target) : Steps p.tables e below (T.setTop g) target := X.ldcFloatC hx hown hconst hg hd target hr
/-- lookupswitch, the value not listed -/
theorem own_lswM {g : JFrame} {target : State} (X : Stand p l e R s m args below meth c T locs cells slots) (hx : p.tables.exec = Jvm.exec) (hg : g.method = m) {pc0 pc' : Nat} (hpc : g.pc = pc0) {k : Int32} {rest : List Value} (hs : g.stack = .int k :: rest) {df : Int} {ps : Array (Int × Int)} {len : Nat} (hd : decode c.code g.pc = .ok (.lookupswitch df ps, len))
    (h1 : (ps.toList.zip (ps.toList.drop 1)).all (fun (a, next) => a.1 < next.1) = true) (h2 : ps.find? (·.1 == k.toInt) = none) (h3 : 0 ≤ (pc0 : Int) + df) (h4 : ((pc0 : Int) + df).toNat = pc') (hr : Steps p.tables e below (T.setTop { g with pc := pc', stack := rest }) target) : Steps p.tables e below (T.setTop g) target := by
  subst hpc h4
  exact X.lookupswitchMiss hx hg hs hd h1 h2 h3 _ hr
/-- lookupswitch, the value listed -/
theorem own_lswH {g : JFrame} {target : State} (X : Stand p l e R s m args below meth c T locs cells slots) (hx : p.tables.exec = Jvm.exec) (hg : g.method = m) {pc0 pc' : Nat} (hpc : g.pc = pc0) {k : Int32} {rest : List Value} (hs : g.stack = .int k :: rest) {df : Int} {ps : Array (Int × Int)} {len : Nat} (hd : decode c.code g.pc = .ok (.lookupswitch df ps, len))
    (h1 : (ps.toList.zip (ps.toList.drop 1)).all (fun (a, next) => a.1 < next.1) = true) {a off : Int} (h2 : ps.find? (·.1 == k.toInt) = some (a, off)) (h3 : 0 ≤ (pc0 : Int) + off) (h4 : ((pc0 : Int) + off).toNat = pc') (hr : Steps p.tables e below (T.setTop { g with pc := pc', stack := rest }) target) : Steps p.tables e below (T.setTop g) target := by
  subst hpc h4
  exact X.lookupswitchHit hx hg hs hd h1 h2 h3 _ hr
/-- aaload -/
theorem own_ldA {C : String} {a : Addr} {k : ClassId} {n j : Int32} {vs : List Value} {d v : Value} {g : JFrame} {rest : List Value} {target : State} (X : Stand p l e R s m args below meth c T locs cells slots) (hx : p.tables.exec = Jvm.exec) (hZ : Z.Warmed39 s.vm) (eT : T.heap = h) (V : Arv Z h a k (.object C) n vs d) (hj : ¬ j < 0 ∧ j < n) (hv : vs.getD j.toNatClampNeg d = v) (hg : g.method = m) (hs : g.stack = .int j :: .ref a :: rest) (hd : decode c.code g.pc = .ok (.aaload, 1))
    (hr : Steps p.tables e below (T.setTop { g with pc := g.pc + 1, stack := v :: rest }) target) : Steps p.tables e below (T.setTop g) target := by
  obtain ⟨cl, Ar, q, S, M, H, G⟩ := V
  exact X.aaload hx (by rw [eT]; exact Ar.1) (State.isArrayOf_alike hZ.alike Ar.2.1) rfl Ar.2.2 (inb_of S hj) (H.at (inb_of S hj) hv) hg hs hd _ hr
/-- aastore -/
theorem own_stA {C : String} {a y : Addr} {k : ClassId} {n j : Int32} {vs : List Value} {d : Value} {g : JFrame} {rest : List Value} (X : Stand p l e R s m args below meth c T locs cells slots) (hx : p.tables.exec = Jvm.exec) (hZ : Z.Warmed39 s.vm) (eT : T.heap = h) (V : Arv Z h a k (.object C) n vs d) (O : Ovr Z k C) (I : Ins Z h y C true) (hj : ¬ j < 0 ∧ j < n) (hg : g.method = m) (hs : g.stack = .ref y :: .int j :: .ref a :: rest) (hd : decode c.code g.pc = .ok (.aastore, 1)) :
    ∃ T' h', Stand p l e R s m args below meth c T' (locs ++ [⟨a, j.toNatClampNeg⟩]) cells slots ∧ T'.heap = h' ∧ Wr h h' a j.toNatClampNeg (.ref y) ∧ ∀ target, Steps p.tables e below (T'.setTop { g with pc := g.pc + 1, stack := rest }) target → Steps p.tables e below (T.setTop g) target := by
  obtain ⟨cl, Ar, q, S, M, H, G⟩ := V
  subst q
  exact stR X hx hZ eT Ar (inb_of S hj) rfl (Sto.of Ar O I) hg hs hd
def own_fc : ByteArray := ⟨#[0x2a, 0xb4, 0x00, 0x11, 0x2a, 0xb4, 0x00, 0x13, 0x2b, 0xc0, 0x00, 0x17, 0xb6, 0x00, 0x1d, 0xb0]⟩
theorem fc0 : decode own_fc 0 = .ok (.aload_n 0, 1) := by decide +kernel
theorem fc1 : decode own_fc 1 = .ok (.getfield 17, 3) := by decide +kernel
theorem fc4 : decode own_fc 4 = .ok (.aload_n 0, 1) := by decide +kernel
theorem fc5 : decode own_fc 5 = .ok (.getfield 19, 3) := by decide +kernel
theorem fc8 : decode own_fc 8 = .ok (.aload_n 1, 1) := by decide +kernel
theorem fc9 : decode own_fc 9 = .ok (.checkcast 23, 3) := by decide +kernel
theorem fc12 : decode own_fc 12 = .ok (.invokevirtual 29, 3) := by decide +kernel
theorem fc15 : decode own_fc 15 = .ok (.areturn, 1) := by decide +kernel
/-- the forwarder runs: two captured values and one argument behind a cast, a private instance method as the target; under the wide frame -/
theorem own_fwd (X : Stand p l e R s m args below meth c T locs cells slots) (hx : p.tables.exec = Jvm.exec) (hZ : Z.Warmed39 s.vm) {host kn : String} {y : MethodName} {σ : Lambda.Shape} {cK : ClassId} (hmd : LamKit.Made Z host σ cK)
    (hok : LamKit.fwdOK σ host own_fc 2 (some (.object "java/lang/Object")) 29 25 = true) (hc0 : LamKit.capOK σ host 17 0 = true) (hc1 : LamKit.capOK σ host 19 1 = true) (hcl : own_clsOK σ host 23 kn = true)
    (wO : (Cond.instantiable "java/lang/Object" 0).before a0 Z = true) {nY : Nat} (wY : (Cond.instantiable y.cls nY).before a0 Z = true) (wi : (Cond.instanceMethod y).before a0 Z = true) (wp : (Cond.privateMethod y).before a0 Z = true)
    {bytes : ByteArray} {maxL : Nat} {ret : Option FieldType} (wc : (Cond.code y bytes maxL ret).before a0 Z = true) (wz : (Cond.initialized y.cls).before a0 Z = true)
    (hy : y.cls = σ.implClass ∧ y.name = σ.implName ∧ y.desc = σ.implDesc.toString) (hpoly : y.cls ≠ "java/lang/invoke/MethodHandle" ∧ y.cls ≠ "java/lang/invoke/VarHandle")
    (eT : T.heap = h) {fo a f k : Addr} {C : String} (F : Lam h fo cK (.ref a) (.ref f)) (Ea : Exa Z h a C) (Ek : Exa Z h k kn)
    {PV : Vm → Prop} {rm : Room} {Q : Option Value → Heap → Vm → List Loc → Prop}
    (hM : MetFree l y (head1 [Cond.code y bytes maxL ret] rm) (fun as U => as = #[.ref a, .ref f, .ref k] ∧ Z.Warmed39 U.vm ∧ U.heap = h ∧ PV U.vm) (fun _ _ _ _ _ => True) (fun _ U o U' => ∃ v L, o = .returned v ∧ Q v U'.heap U'.vm L ∧ ReturnedEndW U o U' L rm.cells rm.slots))
    (hI : ∀ vm, s.WarmedH vm → PV vm) (hout : ∀ v h vm L, Q v h vm L → ∃ w, v = some w ∧ w.isRef = true) (hpar : ∀ sig, parseMethodDescriptor y.desc = some sig → ([.ref f, .ref k] : List Value).length = sig.parameters.length)
    {g : JFrame} (hg : g.method = m) (hsize : g.locals.size = c.maxLocals) {ig : Instr} {len : Nat} (hdg : decode c.code g.pc = .ok (ig, len))
    (hfr : rm.frames + 2 ≤ R.frames) (hlo : 2 * g.monitorRoom + (g.stack.map fun v => v.category).sum + (2 + 11) + ((maxL + 11) + rm.locals) ≤ R.locals) (hcells : cells + rm.cells ≤ R.cells) (hslots : slots + rm.slots ≤ R.slots) :
    ∃ (v : Option Value) (B : Pt), Stand p l e R (s.setVm B.U.vm) m args below meth c B.U B.locs B.cells B.slots ∧ s.Since B.U.vm B.U.heap.size ∧ T.heap.size ≤ B.U.heap.size ∧ (∃ L, Q v B.U.heap B.U.vm L ∧ B.locs = locs ++ L ∧ B.cells = cells + rm.cells ∧ B.slots = slots + rm.slots) ∧
      ∀ acts, Steps p.tables e below (doInvoke e (T.setTop g) acts ⟨cK, 1⟩ #[.ref fo, .ref k]).1 (B.U.setTop { g with pc := g.pc + len, stack := v.toList ++ g.stack }) := by
  have hZT : Z.Warmed39 T.vm := wtrans hZ X.warmed
  have hmT := own_madeS (s := T) hZT hmd
  obtain ⟨d, dk, hd, hdn, hmade, -⟩ := hmT
  obtain ⟨y1, y2, y3⟩ := hy
  obtain ⟨kK, tk, file, methk, ck, toy, t, nt, hkK, hpn, hfile, hidx, hnt, hmk, hck, hbytes, hml, hlk, -, hretk, htoy, htk, hlook, hready, hclsR⟩ := LamKit.made_static hok hd hdn hmade
  obtain ⟨mT, methT, hmTn, hmethT, hstT, habT⟩ := Cond.instanceMethod_spec (mvT (s := T) (args := args) hZT wi)
  obtain ⟨methT', cT', hmethT', -, -, -, -, -, -, hsigT⟩ := Cond.code_spec hmTn (mvT (s := T) (args := args) hZT wc)
  cases hmethT.symm.trans hmethT'
  have hfT0 : T.vm.findClass y.cls = some mT.cls := findClass_of_methodNamed hmTn
  have hfT : T.vm.findClass σ.implClass = some mT.cls := by rw [← y1]; exact hfT0
  cases htoy.symm.trans hfT
  have ht : t = mT := by
    have h1 : T.methodFound? y.cls y.name y.desc = some mT := State.methodFound?_of_named hmTn hpoly
    rw [y1, y2, y3] at h1
    simp only [State.methodFound?, hfT, htk, Option.bind_eq_bind, Option.bind_some] at h1
    rw [hlook] at h1
    exact Option.some.inj h1
  subst ht
  obtain ⟨kT, hkT, hnameT⟩ := className_of_methodNamed hmTn
  cases htk.symm.trans hkT
  have hsp : signaturePolymorphic tk methT = false := by simp [signaturePolymorphic, hnameT, hpoly.1, hpoly.2]
  obtain ⟨cY, kY, i1, i2, -, i4, -⟩ := Cond.instantiable_spec (mvT (s := T) (args := args) hZT wY)
  have hcY : cY = t.cls := Option.some.inj (i1.symm.trans hfT0)
  subst hcY
  cases htk.symm.trans i2
  have hitf : tk.isInterface = false := by simp only [Bool.or_eq_false_iff] at i4; exact i4.1
  have hpriv : methT.isPrivate = true := Cond.privateMethod_at (mvP (s := T) (args := #[]) hZT wp) t methT hmTn hmethT
  have hpk : T.plainMethod ⟨cK, 1⟩ := State.plainMethod.of_name (fun k' hk' => by cases hkK.symm.trans hk'; exact hpn)
  obtain ⟨Y₀, hin⟩ := X.into hg hsize hdg #[.ref fo, .ref k] (R' := { frames := rm.frames + 1, cells := rm.cells, slots := rm.slots, locals := (maxL + 11) + rm.locals }) hmk hck hlk hpk hfr (by rw [hml]; exact hlo) hcells hslots
  have hL0 : entryFrame ⟨cK, 1⟩ #[.ref fo, .ref k] ck.maxLocals = { method := ⟨cK, 1⟩, pc := 0, locals := #[.val (.ref fo), .val (.ref k)], stack := [], locked := none } := by rw [hml]; rfl
  rw [hL0] at Y₀ hin
  generalize hU : (T.setTop g).pushFrame (.java { method := ⟨cK, 1⟩, pc := 0, locals := #[.val (.ref fo), .val (.ref k)], stack := [], locked := none }) = U at Y₀ hin
  have hvmU : U.vm = T.vm := by rw [← hU]; rfl
  have hheapU : U.heap = T.heap := by rw [← hU]; rfl
  have hK := backOfV (p := p) (e := e) (R := { frames := rm.frames + 1, cells := rm.cells, slots := rm.slots, locals := (maxL + 11) + rm.locals }) (below := .java g :: below) (s := T.calling g ⟨cK, 1⟩ #[.ref fo, .ref k]) (args := #[.ref fo, .ref k]) (len := 3) (W := 0) (a0 := a0) (PV := PV) hM hZT
    (fun vm hW => hI vm (State.WarmedH.trans (t := T.calling g ⟨cK, 1⟩ #[.ref fo, .ref k]) X.warmed hW)) wc wz (Nat.le_refl _) (by show 0 + (maxL + 11) + rm.locals ≤ (maxL + 11) + rm.locals; omega)
  have hnamedU : U.methodNamed? y = some t := by rw [← hU]; exact hmTn
  obtain ⟨v, ⟨U', ls, cc, sl⟩, Y₁, hS, hgr, ⟨L, hQ, hl, hc, hs⟩, hsteps⟩ := hK ⟨cK, 1⟩ methk ck ⟨U, [], 0, 0⟩ { method := ⟨cK, 1⟩, pc := 12, locals := #[.val (.ref fo), .val (.ref k)], stack := [], locked := none } (.invokevirtual 29) t #[.ref a, .ref f, .ref k] Y₀ rfl (by rw [hml]; rfl)
    (by rw [hbytes]; exact fc12) (Nat.le_refl _) hnamedU ⟨rfl, hheapU.trans eT, by show 0 + rm.cells ≤ rm.cells; omega, by show 0 + rm.slots ≤ rm.slots; omega⟩
  dsimp only [Pt.U, Pt.locs, Pt.cells, Pt.slots] at Y₁ hS hgr hQ hl hc hs hsteps
  obtain ⟨w, rfl, hw⟩ := hout _ _ _ _ hQ
  obtain ⟨fs, hleave, -, hended, hWe, hsame⟩ := Y₁.leave (v := some w) (fun q => by rw [hretk] at q; cases q) hlk
  have hW39 : s.Warmed39 U'.vm := State.Warmed39.trans (t := T.calling g ⟨cK, 1⟩ #[.ref fo, .ref k]) X.warmed.wide hS.1
  have X₂ := X.retabled hW39
  obtain ⟨T', X', -, -, ht⟩ := X₂.outOf (mk := ⟨cK, 1⟩) (a := #[.ref fo, .ref k]) hg hdg hended hWe hsame
  have hvmT : T'.vm = U'.vm := by
    have q : (U'.setFrames fs).vm = (T'.setTop { g with pc := g.pc + len, stack := (some w).toList ++ g.stack }).vm := congrArg State.vm ht
    exact q.symm
  have hheT : T'.heap = U'.heap := by
    have q : (U'.setFrames fs).heap = (T'.setTop { g with pc := g.pc + len, stack := (some w).toList ++ g.stack }).heap := congrArg State.heap ht
    exact q.symm
  refine ⟨some w, ⟨T', locs ++ ls, cells + cc, slots + sl⟩, ?_, ?_, ?_, ⟨L, ?_, ?_, ?_, ?_⟩, fun acts => ?_⟩
  · show Stand p l e R (s.setVm T'.vm) m args below meth c T' _ _ _
    rw [hvmT]; exact X'
  · show s.Since T'.vm T'.heap.size
    rw [hvmT, hheT]
    exact ⟨hW39, fun j q hj hq => by
      obtain ⟨x1, x2⟩ := hS.2 j q (by show T.vm.interned.size ≤ j; rw [X.warmed.interned_eq]; exact hj) hq
      exact ⟨Nat.le_trans X.same.2.1 x1, x2⟩⟩
  · show T.heap.size ≤ T'.heap.size
    rw [hheT, ← hheapU]; exact hgr
  · show Q (some w) T'.heap T'.vm L
    rw [hheT, hvmT]; exact hQ
  · simp [hl]
  · simp [hc]
  · simp [hs]
  · rw [hin acts]
    show Steps p.tables e below _ (T'.setTop { g with pc := g.pc + len, stack := (some w).toList ++ g.stack })
    rw [← ht]
    refine Steps.weaken (mid := [.java g]) ?_
    have hZU : Z.Warmed39 U.vm := by rw [hvmU]; exact hZT
    have hmU := own_madeS (s := U) hZU hmd
    have wOU : (Cond.instantiable "java/lang/Object" 0).before args U = true := mvT (s := U) hZU wO
    obtain ⟨cell, hcell, hccls, hcvm, hcsl⟩ := F
    have hcellU : U.heap[fo]? = some cell := by rw [hheapU, eT]; exact hcell
    jvm_step Y₀.here [hx, hbytes, fc0, Value.isRef]
    refine LamKit.getCap hx Y₀.here (State.WarmedH.refl U) hmU hc0 wOU hcellU hcvm (v := .ref a) (by rw [hcsl]; rfl) (g := { method := ⟨cK, 1⟩, pc := 1, locals := #[.val (.ref fo), .val (.ref k)], stack := [.ref fo], locked := none }) rfl rfl (by rw [hbytes]; exact fc1) ?_
    jvm_step Y₀.here [hx, hbytes, fc4, Value.isRef]
    refine LamKit.getCap hx Y₀.here (State.WarmedH.refl U) hmU hc1 wOU hcellU hcvm (v := .ref f) (by rw [hcsl]; rfl) (g := { method := ⟨cK, 1⟩, pc := 5, locals := #[.val (.ref fo), .val (.ref k)], stack := [.ref fo, .ref a], locked := none }) rfl rfl (by rw [hbytes]; exact fc5) ?_
    jvm_step Y₀.here [hx, hbytes, fc8, Value.isRef]
    obtain ⟨cellk, kk, e1, e2, e3, e4, -⟩ := id Ek
    obtain ⟨kk', hkk', -⟩ := hZU.alike.2.2 _ _ e3
    have hasg : U.vm.assignable cellk.cls cellk.cls = true := by
      rw [hZU.alike.assignable]
      obtain ⟨c1, cT, q1, q2, q3⟩ := Ins.self Ek
      cases e1.symm.trans q1
      cases e2.symm.trans q2
      simp only [Bool.and_eq_true] at q3
      exact q3.2
    have hrdy : U.vm.classReady cK 23 cellk.cls := by
      rw [hvmU]
      exact own_made_cls hcl hd hdn hmade (by rw [hZT.alike.findClass]; exact e2)
    refine (Y₀.checkcastR hx (g := { method := ⟨cK, 1⟩, pc := 9, locals := #[.val (.ref fo), .val (.ref k)], stack := [.ref k, .ref f, .ref a], locked := none }) rfl (index := 23) (cT := cellk.cls) (x := .ref k) (rest := [.ref f, .ref a]) hrdy rfl
      (Or.inr ⟨k, cellk, kk', kk', rfl, by rw [hheapU, eT]; exact e1, (fun q z => by rw [z] at e4; cases e4), hkk', hkk', hasg⟩) (by rw [hbytes]; exact fc9) (Steps.refl _)).trans ?_
    obtain ⟨cella, ka, b1, b2, b3, b4, -⟩ := id Ea
    have hs' : U.topJava?.isSome := Y₀.here.top
    jvm_step Y₀.here [hx, hbytes, fc12, invokevirtual.wp_ready (e := e) (s := U) (r := t) (m := t) (k := tk) (mk := tk) (rmeth := methT) (meth := methT) (a := a) (args := [.ref f, .ref k]) (rest := []) (cell := cella)
      (f := { method := ⟨cK, 1⟩, pc := 12, locals := #[.val (.ref fo), .val (.ref k)], stack := [.ref k, .ref f, .ref a], locked := none }) hs' ⟨kK, file, 25, nt, t.cls, tk, by rw [hvmU]; exact hkK, hfile, hidx, by rw [hvmU]; exact hclsR, by rw [hvmU]; exact htk, hitf⟩ (by rw [hvmU]; exact hready) (by rw [hvmU]; exact htk) (by rw [hvmU]; exact hmethT) hsp hstT (hpar _ hsigT) rfl
      (by rw [hheapU, eT]; exact b1) (fun q z => by rw [z] at b4; cases b4) (by rw [hvmU]; exact selectMethod_private hmethT hpriv) (by rw [hvmU]; exact hmethT) habT (by rw [hvmU]; exact htk) hitf]
    intro acts'
    rw [doInvoke_state]
    refine hsteps.trans ?_
    show Steps p.tables e (.java g :: below) (U'.setTop { method := ⟨cK, 1⟩, pc := 15, locals := #[.val (.ref fo), .val (.ref k)], stack := [w], locked := none }) _
    exact Y₁.areturnOut hx hw hretk rfl (by rw [hbytes]; exact fc15) hleave
/-- invokeinterface on the object of such a lambda -/
theorem own_apply (X : Stand p l e R s m args below meth c T locs cells slots) (hx : p.tables.exec = Jvm.exec) (hZ : Z.Warmed39 s.vm) {own host kn : String} {index count : Nat} {xi y : MethodName} {σ : Lambda.Shape} {cK : ClassId} (hown : s.vm.findClass own = some m.cls)
    (w1 : (Cond.methodLink own index xi).before a0 Z = true) (w2 : (Cond.declares xi).before a0 Z = true) (w3 : (Cond.interfaceMethod xi.cls xi.cls xi.name xi.desc).before args s = true) (hmd : LamKit.Made Z host σ cK)
    (hok : LamKit.fwdOK σ host own_fc 2 (some (.object "java/lang/Object")) 29 25 = true) (hc0 : LamKit.capOK σ host 17 0 = true) (hc1 : LamKit.capOK σ host 19 1 = true) (hcl : own_clsOK σ host 23 kn = true)
    (wO : (Cond.instantiable "java/lang/Object" 0).before a0 Z = true) {nY : Nat} (wY : (Cond.instantiable y.cls nY).before a0 Z = true) (wi : (Cond.instanceMethod y).before a0 Z = true) (wp : (Cond.privateMethod y).before a0 Z = true)
    {bytes : ByteArray} {maxL : Nat} {ret : Option FieldType} (wc : (Cond.code y bytes maxL ret).before a0 Z = true) (wz : (Cond.initialized y.cls).before a0 Z = true)
    (hxi : xi.cls = σ.iface ∧ xi.name = σ.name ∧ xi.desc = σ.sam.toString) (hy : y.cls = σ.implClass ∧ y.name = σ.implName ∧ y.desc = σ.implDesc.toString)
    (hpx : xi.cls ≠ "java/lang/invoke/MethodHandle" ∧ xi.cls ≠ "java/lang/invoke/VarHandle") (hpoly : y.cls ≠ "java/lang/invoke/MethodHandle" ∧ y.cls ≠ "java/lang/invoke/VarHandle")
    (eT : T.heap = h) {fo a f k : Addr} {C : String} (F : Lam h fo cK (.ref a) (.ref f)) (Ea : Exa Z h a C) (Ek : Exa Z h k kn)
    {PV : Vm → Prop} {rm : Room} {Q : Option Value → Heap → Vm → List Loc → Prop}
    (hM : MetFree l y (head1 [Cond.code y bytes maxL ret] rm) (fun as U => as = #[.ref a, .ref f, .ref k] ∧ Z.Warmed39 U.vm ∧ U.heap = h ∧ PV U.vm) (fun _ _ _ _ _ => True) (fun _ U o U' => ∃ v L, o = .returned v ∧ Q v U'.heap U'.vm L ∧ ReturnedEndW U o U' L rm.cells rm.slots))
    (hI : ∀ vm, s.WarmedH vm → PV vm) (hout : ∀ v h vm L, Q v h vm L → ∃ w, v = some w ∧ w.isRef = true) (hpar : ∀ sig, parseMethodDescriptor y.desc = some sig → ([.ref f, .ref k] : List Value).length = sig.parameters.length)
    (hlen : ∀ sig, parseMethodDescriptor xi.desc = some sig → ([.ref k] : List Value).length = sig.parameters.length)
    {g : JFrame} (hg : g.method = m) (hsize : g.locals.size = c.maxLocals) {rest : List Value} (hstack : g.stack = .ref k :: .ref fo :: rest) (hdg : decode c.code g.pc = .ok (.invokeinterface index count, 5))
    (hfr : rm.frames + 2 ≤ R.frames) (hlo : 2 * g.monitorRoom + (rest.map fun v => v.category).sum + (2 + 11) + ((maxL + 11) + rm.locals) ≤ R.locals) (hcells : cells + rm.cells ≤ R.cells) (hslots : slots + rm.slots ≤ R.slots) :
    ∃ (v : Option Value) (vm₁ : Vm) (B : Pt), s.WarmedH vm₁ ∧ Stand p l e R (s.setVm B.U.vm) m args below meth c B.U B.locs B.cells B.slots ∧ s.Since B.U.vm B.U.heap.size ∧ T.heap.size ≤ B.U.heap.size ∧ (∃ L, Q v B.U.heap B.U.vm L ∧ B.locs = locs ++ L ∧ B.cells = cells + rm.cells ∧ B.slots = slots + rm.slots) ∧
      Steps p.tables e below (T.setTop g) (B.U.setTop { g with pc := g.pc + 5, stack := v.toList ++ rest }) := by
  have hmS := own_madeS hZ hmd
  obtain ⟨kK, methk, hkK, hmk, hpub, habs, hsel⟩ := LamKit.madeSelects hmS hok w3 hxi
  obtain ⟨r0, r, hn, hrm, hstR, hsigR⟩ := Cond.declares_spec (mvT (args := args) hZ w2)
  obtain ⟨cL, kL, r1, hcL, hkL, hiL, -, -⟩ := Cond.interfaceMethod_spec w3
  have hr0 : r0.cls = cL := Option.some.inj ((findClass_of_methodNamed hn).symm.trans hcL)
  obtain ⟨hasg, hsel', hway⟩ := hsel r0 r hn hrm
  obtain ⟨cell, hcell, hccls, hcvm, hcsl⟩ := id F
  subst hccls
  obtain ⟨vm₁, X₁, hstep₁⟩ := X.invokeinterface hx hown (mvT hZ w1) hn hrm hstR (by rw [hr0]; exact hkL) hiL hpx (a := fo) (cell := cell) (kcell := kK) (by rw [eT]; exact hcell) (fun z q => by rw [hcvm] at q; cases q) hkK hasg
    (m' := ⟨cell.cls, 1⟩) (meth' := methk) (by rw [Launch.admits_selectMethod X.admits]; exact hsel') hmk hway hpub habs hg (argsL := [.ref k]) (rest := rest) (hlen _ hsigR) hstack hdg
  obtain ⟨v, B, X', hS, hgr, hpost, hsteps⟩ := own_fwd X₁ hx hZ hmd hok hc0 hc1 hcl wO wY wi wp wc wz hy hpoly eT F Ea Ek hM hI hout hpar (g := { g with stack := rest }) hg hsize hdg hfr hlo hcells hslots
  exact ⟨v, vm₁, B, X₁.warmed, X', hS, hgr, hpost, hstep₁ _ fun acts => hsteps acts⟩
end OwnLam
def own_sg : Jvm.Lambda.Shape := (Jvm.Lambda.Shape.mk "java/util/function/Function" "apply" (Jvm.ClassFile.MethodDescriptor.mk ([(Jvm.ClassFile.FieldType.object "java/lang/Object")] : List Jvm.ClassFile.FieldType) (Option.some (Jvm.ClassFile.FieldType.object "java/lang/Object"))) ([(Jvm.ClassFile.FieldType.object "com/example/mandoline/mandoline/Variable"), (Jvm.ClassFile.FieldType.object "com/example/mandoline/mandoline/Place$Field")] : List Jvm.ClassFile.FieldType) (5 : Nat) "com/example/mandoline/mandoline/Variable" "lambda$addField$0" (Jvm.ClassFile.MethodDescriptor.mk ([(Jvm.ClassFile.FieldType.object "com/example/mandoline/mandoline/Place$Field"), (Jvm.ClassFile.FieldType.object "java/lang/String")] : List Jvm.ClassFile.FieldType) (Option.some (Jvm.ClassFile.FieldType.object "com/example/mandoline/mandoline/Variable"))) false (Jvm.ClassFile.MethodDescriptor.mk ([(Jvm.ClassFile.FieldType.object "java/lang/String")] : List Jvm.ClassFile.FieldType) (Option.some (Jvm.ClassFile.FieldType.object "com/example/mandoline/mandoline/Variable"))))
theorem own_hok : LamKit.fwdOK own_sg "com/example/mandoline/mandoline/Variable" own_fc 2 (some (.object "java/lang/Object")) 29 25 = true := by decide +kernel
theorem own_hc0 : LamKit.capOK own_sg "com/example/mandoline/mandoline/Variable" 17 0 = true := by decide +kernel
theorem own_hc1 : LamKit.capOK own_sg "com/example/mandoline/mandoline/Variable" 19 1 = true := by decide +kernel
theorem own_hcl : own_clsOK own_sg "com/example/mandoline/mandoline/Variable" 23 "java/lang/String" = true := by decide +kernel
theorem own_hxi : y_0.cls = own_sg.iface ∧ y_0.name = own_sg.name ∧ y_0.desc = own_sg.sam.toString := by decide +kernel
theorem own_hy : y_1.cls = own_sg.implClass ∧ y_1.name = own_sg.implName ∧ y_1.desc = own_sg.implDesc.toString := by decide +kernel
def own_by (c : Int32) : Int32 := (c.toInt8.toInt32).toInt8.toInt32
def own_min32 (x y : Int32) : Int32 := if y < x then y else x
/-- the first n values of an array's list -/
def own_take (vs : List Value) (d : Value) (n : Nat) : List Value := (List.range n).map fun i => vs.getD i d
theorem own_take_all (vs : List Value) (d : Value) : own_take vs d vs.length = vs := by
  unfold own_take
  apply List.ext_getElem
  · simp
  · intro i h1 h2
    simp [List.getD, List.getElem?_eq_getElem h2]
theorem own_z0 : (0 : Int32).toNatClampNeg = 0 := by decide
theorem own_take_hus (vs : List Value) (d : Value) (n : Nat) : own_take vs d n = (List.range n).map fun i => vs.getD ((0 : Int32).toNatClampNeg + i) d := by
  rw [own_z0]; simp [own_take]
theorem own_take_len (vs : List Value) (d : Value) (n : Nat) : (own_take vs d n).length = n := by simp [own_take]
theorem own_sh0 (x : Int32) : x >>> ((0 : Int32) &&& 31) = x := by
  apply Int32.toInt_inj.mp
  rw [c_ishr x 0 0 (by decide)]; simp
theorem own_sl0 (x : Int32) : x <<< ((0 : Int32) &&& 31) = x := by
  have h := c_ishl x 0 0 (by decide)
  have r := rng32 x
  have r2 := rng32 (x <<< ((0 : Int32) &&& 31))
  generalize x <<< ((0 : Int32) &&& 31) = y at h r2 ⊢
  apply Int32.toInt_inj.mp
  simp only [show ((2 ^ 0 : Nat) : Int) = 1 from rfl] at h
  omega
theorem own_16 : (16 : Int32).toNatClampNeg = 16 := by decide
/-- a char of one byte -/
def Ch8 (c : Int32) : Prop := (¬ (255 : Int32) < c) ∧ nar .char c = c ∧ nar .char (own_by c &&& (255 : Int32)) = c
theorem Ch8.le {c : Int32} (h : Ch8 c) : ¬ (255 : Int32) < c := h.1
theorem Ch8.nr {c : Int32} (h : Ch8 c) : nar .char c = c := h.2.1
theorem Ch8.by8 {c : Int32} (h : Ch8 c) : nar .char (own_by c &&& (255 : Int32)) = c := h.2.2
theorem own_ch8 (x : Int32) : Ch8 (nar .char (x &&& 255)) := by
  have h1 := c_and x 255 (by decide)
  generalize x &&& 255 = r at h1 ⊢
  have z255 : (255 : Int32).toInt = 255 := by decide
  rw [z255] at h1
  obtain ⟨n, hn⟩ : ∃ n : Nat, r.toInt = n := ⟨r.toInt.toNat, by omega⟩
  have hlt : n < 256 := by omega
  have hi : ∀ i : Fin 256, (Int32.ofNat i.1).toInt = i.1 := by decide +kernel
  have hr : r = Int32.ofNat n := Int32.toInt_inj.mp (hn.trans (hi ⟨n, hlt⟩).symm)
  have key : ∀ i : Fin 256, (¬ (255 : Int32) < nar .char (Int32.ofNat i.1)) ∧ nar .char (nar .char (Int32.ofNat i.1)) = nar .char (Int32.ofNat i.1) ∧ nar .char (own_by (nar .char (Int32.ofNat i.1)) &&& (255 : Int32)) = nar .char (Int32.ofNat i.1) := by decide +kernel
  rw [hr]; exact key ⟨n, hlt⟩
theorem own_idx (x : Int32) : ¬ (((16 : Int32) - (1 : Int32)) &&& x) < 0 ∧ (((16 : Int32) - (1 : Int32)) &&& x) < 16 := by
  have h := c_and' ((16 : Int32) - (1 : Int32)) x (by decide)
  have z0 : (0 : Int32).toInt = 0 := by decide
  have z1 : (16 : Int32).toInt = 16 := by decide
  have z2 : ((16 : Int32) - (1 : Int32)).toInt = 15 := by decide
  rw [z2] at h
  rw [Int32.lt_iff_toInt_lt, Int32.lt_iff_toInt_lt, z0, z1]
  generalize ((16 : Int32) - (1 : Int32)) &&& x = r at h ⊢
  omega
theorem own_and3 (x : Int32) : x &&& 3 = 0 ∨ x &&& 3 = 1 ∨ x &&& 3 = 2 ∨ x &&& 3 = 3 := by
  have h := c_and x 3 (by decide)
  have z3 : (3 : Int32).toInt = 3 := by decide
  generalize x &&& 3 = r at h ⊢
  have h4 : r.toInt = 0 ∨ r.toInt = 1 ∨ r.toInt = 2 ∨ r.toInt = 3 := by omega
  rcases h4 with h | h | h | h
  · exact Or.inl (Int32.toInt_inj.mp h)
  · exact Or.inr (Or.inl (Int32.toInt_inj.mp h))
  · exact Or.inr (Or.inr (Or.inl (Int32.toInt_inj.mp h)))
  · exact Or.inr (Or.inr (Or.inr (Int32.toInt_inj.mp h)))
abbrev c0 : ByteArray := jdk_42_method_152_code
theorem d0_0 : decode c0 0 = .ok (.getstatic 38, 3) := by decide +kernel
theorem d0_3 : decode c0 3 = .ok (.ifCond .eq 10, 3) := by decide +kernel
theorem d0_6 : decode c0 6 = .ok (.aload_n 0, 1) := by decide +kernel
theorem d0_7 : decode c0 7 = .ok (.getfield 15, 3) := by decide +kernel
theorem d0_10 : decode c0 10 = .ok (.goto 4, 3) := by decide +kernel
theorem d0_14 : decode c0 14 = .ok (.ireturn, 1) := by decide +kernel
theorem pn_java_lang_String : plainName "java/lang/String" = true := by first | (simp [plainName, overriddenIn]; done) | decide +kernel
theorem ef_rm_coder (m : MethodId) (G1 : Int32) (aa : Addr) (cd : Int32)  : entryFrame m #[(.ref aa)] 1 = mkF m 0 #[vR aa] [] := by  first | (simp [entryFrame, mkF, argsToLocals, Value.category, maxLocals]; done) | rfl
def Q_rm_coder (Z : State) (G1 : Int32) (aa : Addr) (cd : Int32) (h0 : Heap) (n0 : Nat) (v : Option Value) (h : Heap) (L : List Loc) : Prop := (v = some (.int cd)) ∧ (Fr n0 L) ∧ (h = h0)
set_option maxRecDepth 65536 in
set_option maxHeartbeats 40000000 in
theorem rm_coder (l : Launch) (Z : State) (a0 : Array Value) (hw : ∀ d ∈ tables_1, d.before a0 Z = true) (ws : List Jvm.Cond) (G1 : Int32) (aa : Addr) (cd : Int32) (h0 : Heap) (n0 : Nat) (Z0 : n0 ≤ h0.size) (O2 : Sta Z Z.heap "java/lang/String" "COMPACT_STRINGS" "Z" (.int G1)) (P5 : ¬ G1 = 0) (f2 : Fld Z h0 aa "java/lang/String" "coder" "B" (.int cd)) (hcd : cd = 0 ∨ cd = 1) (Old0 : OldL Z n0 h0) :
    MetN l Z y_2 c0 1 (some .byte) ws (Rm 0 0 0 0) #[(.ref aa)] h0 (Q_rm_coder Z G1 aa cd h0 n0) := by
 refine MetFree.of_bodySF (plainFor_of_name pn_java_lang_String) hisR ?_
 intro p e s m args below meth c s₁ Bd hml0 hP hK
 obtain ⟨rfl, hZ, hh⟩ := hP
 have hx := Bd.exec
 have hby := Bd.bytes
 have hml : c.maxLocals = 1 := hml0
 have hown : s.vm.findClass "java/lang/String" = some m.cls := findClass_of_methodNamed Bd.named
 have X0 : Stand p l e (Rm 0 0 0 0) s m #[(.ref aa)] below meth c s₁ [] 0 0 := Stand.of_body Bd
 have e0 : s₁.heap = h0 := by rw [← hh, Bd.state]; rfl
 have N0 := Fr.nil n0
 have K00 : Keep h0 h0 [] := Keep.refl _ _
 show Rch p e below s₁ (entryFrame m #[(.ref aa)] 1) (FinP s (Q_rm_coder Z G1 aa cd h0 n0) 0 0)
 refine Rch.cast (ef_rm_coder m G1 aa cd) ?_
 show Rch p e below s₁ (mkF m 0 #[vR aa] []) _
 obtain ⟨T1, X1, e1, st1⟩ := getS X0 hx hZ hown (host := "") (wi hw 18 rfl) Via.refl e0 (O2.ext Old0.2) (g := (mkF m 0 #[vR aa] [])) rfl (hb hby d0_0)
 refine Rch.st (fun _ k => st1 _ k) ?_
 show Rch p e below T1 (mkF m 3 #[vR aa] [(.int G1)]) _
 refine w_ifNo (pc' := 6) X1 hx hby d0_3 (XT.i0_eq_f (P5)) rfl ?_
 refine w_aloadN (pc' := 7) X1 hx hby d0_6 rfl rfl rfl ?_
 obtain ⟨T2, X2, e2, st2⟩ := getF X1 hx hZ hown (host := "") (Or.inl (wi hw 30 rfl)) Via.refl e1 f2 (g := (mkF m 7 #[vR aa] [(.ref aa)])) rfl rfl (hb hby d0_7)
 refine Rch.st (fun _ k => st2 _ k) ?_
 show Rch p e below T2 (mkF m 10 #[vR aa] [(.int cd)]) _
 refine w_goto (pc' := 14) X2 hx hby d0_10 (by decide) ?_
 exact Rch.retV X2 hx Bd.returns (by rcases hcd with rfl | rfl <;> rfl) (Or.inl ⟨rfl, by simp, _, rfl⟩) (hb hby d0_14) (by rw [e2]; exact ⟨rfl, N0, rfl⟩) (by decide) (by decide)

abbrev c1 : ByteArray := jdk_42_method_54_code
theorem d1_0 : decode c1 0 = .ok (.aload_n 0, 1) := by decide +kernel
theorem d1_1 : decode c1 1 = .ok (.getfield 9, 3) := by decide +kernel
theorem d1_4 : decode c1 4 = .ok (.arraylength, 1) := by decide +kernel
theorem d1_5 : decode c1 5 = .ok (.aload_n 0, 1) := by decide +kernel
theorem d1_6 : decode c1 6 = .ok (.invokevirtual 335, 3) := by decide +kernel
theorem d1_9 : decode c1 9 = .ok (.ishr, 1) := by decide +kernel
theorem d1_10 : decode c1 10 = .ok (.ireturn, 1) := by decide +kernel
theorem ef_rm_length (m : MethodId) (G1 : Int32) (aa : Addr) (cd : Int32) (bb : Addr) (kb : ClassId) (nn : Int32) (vs : List Value) (dd : Value)  : entryFrame m #[(.ref aa)] 1 = mkF m 0 #[vR aa] [] := by  first | (simp [entryFrame, mkF, argsToLocals, Value.category, maxLocals]; done) | rfl
def Q_rm_length (Z : State) (G1 : Int32) (aa : Addr) (cd : Int32) (bb : Addr) (kb : ClassId) (nn : Int32) (vs : List Value) (dd : Value) (h0 : Heap) (n0 : Nat) (v : Option Value) (h : Heap) (L : List Loc) : Prop := (v = some (.int (nn >>> (cd &&& 31)))) ∧ (Fr n0 L) ∧ (h = h0)
theorem pd___B : parseMethodDescriptor "()B" = some ⟨[], (some .byte)⟩ := by decide +kernel
set_option maxRecDepth 65536 in
set_option maxHeartbeats 40000000 in
theorem rm_length (l : Launch) (Z : State) (a0 : Array Value) (hw : ∀ d ∈ tables_1, d.before a0 Z = true) (ws : List Jvm.Cond) (G1 : Int32) (aa : Addr) (cd : Int32) (bb : Addr) (kb : ClassId) (nn : Int32) (vs : List Value) (dd : Value) (h0 : Heap) (n0 : Nat) (Z0 : n0 ≤ h0.size) (O2 : Sta Z Z.heap "java/lang/String" "COMPACT_STRINGS" "Z" (.int G1)) (P5 : ¬ G1 = 0) (f2 : Fld Z h0 aa "java/lang/String" "coder" "B" (.int cd)) (hcd : cd = 0 ∨ cd = 1) (f4 : Fld Z h0 aa "java/lang/String" "value" "[B" (.ref bb)) (f5 : Arv Z h0 bb kb .byte nn vs dd) (f6 : Exa Z h0 aa "java/lang/String") (Old0 : OldL Z n0 h0) :
    MetN l Z y_3 c1 1 (some .int) ws (Rm 1 0 0 13) #[(.ref aa)] h0 (Q_rm_length Z G1 aa cd bb kb nn vs dd h0 n0) := by
 refine MetFree.of_bodySF (plainFor_of_name pn_java_lang_String) hisR ?_
 intro p e s m args below meth c s₁ Bd hml0 hP hK
 obtain ⟨rfl, hZ, hh⟩ := hP
 have hx := Bd.exec
 have hby := Bd.bytes
 have hml : c.maxLocals = 1 := hml0
 have hown : s.vm.findClass "java/lang/String" = some m.cls := findClass_of_methodNamed Bd.named
 have X0 : Stand p l e (Rm 1 0 0 13) s m #[(.ref aa)] below meth c s₁ [] 0 0 := Stand.of_body Bd
 have e0 : s₁.heap = h0 := by rw [← hh, Bd.state]; rfl
 have N0 := Fr.nil n0
 have K00 : Keep h0 h0 [] := Keep.refl _ _
 show Rch p e below s₁ (entryFrame m #[(.ref aa)] 1) (FinP s (Q_rm_length Z G1 aa cd bb kb nn vs dd h0 n0) 0 0)
 refine Rch.cast (ef_rm_length m G1 aa cd bb kb nn vs dd) ?_
 show Rch p e below s₁ (mkF m 0 #[vR aa] []) _
 refine w_aloadN (pc' := 1) X0 hx hby d1_0 rfl rfl rfl ?_
 obtain ⟨T3, X3, e3, st3⟩ := getF X0 hx hZ hown (host := "") (Or.inl (wi hw 32 rfl)) Via.refl e0 f4 (g := (mkF m 1 #[vR aa] [(.ref aa)])) rfl rfl (hb hby d1_1)
 refine Rch.st (fun _ k => st3 _ k) ?_
 show Rch p e below T3 (mkF m 4 #[vR aa] [(.ref bb)]) _
 refine Rch.st (fun _ k => own_alen X3 hx hZ e3 f5 rfl rfl (hb hby d1_4) k) ?_
 show Rch p e below T3 (mkF m 5 #[vR aa] [(.int nn)]) _
 refine w_aloadN (pc' := 6) X3 hx hby d1_5 rfl rfl rfl ?_
 obtain ⟨cq4, kq4, q4a, q4b, q4c⟩ := isOf hZ e3 f6
 obtain ⟨_, _, ⟨T4, L4, k4, n4⟩, -, X4, ⟨Lc4, hQ4, l4, y4, z4⟩, st4⟩ := X3.virtualBack hx (y := y_2) (z := y_2) hown (mvT hZ (wi hw 291 rfl)) (mvT hZ (wi hw 292 rfl)) (notFace_of_selects (args := #[]) (mvT hZ (wi hw 294 rfl))) (mvT hZ (wi hw 294 rfl)) (mvT hZ (wi hw 293 rfl)) (by decide) (backOf (W := 1) (rm_coder l Z a0 hw [] G1 aa cd h0 n0 Z0 (O2) (P5) f2 (hcd) Old0) hZ (wi hw 295 rfl) (wi hw 7 rfl) (by decide) (by decide)) q4a q4c (g := (mkF m 6 #[vR aa] [(.ref aa), (.int nn)])) rfl (by rw [hml]; rfl) (Steps.refl _) (argsL := []) (rest := [(.int nn)]) (lenOf pd___B rfl) rfl (by show 2 * 0 + _ ≤ _; exact Nat.le_of_eq rfl) (hb hby d1_6) (fun _ _ => ⟨rfl, e3, (by decide : 0 + 0 ≤ _), (by decide : 0 + 0 ≤ _)⟩)
 dsimp only [Pt.U, Pt.locs, Pt.cells, Pt.slots] at X4 l4 y4 z4 st4 hQ4
 subst l4 y4 z4
 obtain ⟨rfl, NQ4, K4⟩ := hQ4
 have N5 := Fr.app N0 NQ4
 refine Rch.st (fun _ k => st4.trans k) ?_
 show Rch p e below T4 (mkF m 9 #[vR aa] [(.int cd), (.int nn)]) _
 refine w_ishr (pc' := 10) X4 hx hby d1_9 rfl ?_
 exact Rch.retV X4 hx Bd.returns rfl (Or.inl ⟨rfl, by simp, _, rfl⟩) (hb hby d1_10) (by rw [K4]; exact ⟨rfl, N5, rfl⟩) (by decide) (by decide)

abbrev c2 : ByteArray := jdk_52_method_15_code
theorem d2_0 : decode c2 0 = .ok (.iload_n 1, 1) := by decide +kernel
theorem d2_1 : decode c2 1 = .ok (.aload_n 0, 1) := by decide +kernel
theorem d2_2 : decode c2 2 = .ok (.arraylength, 1) := by decide +kernel
theorem d2_3 : decode c2 3 = .ok (.isub, 1) := by decide +kernel
theorem d2_4 : decode c2 4 = .ok (.bipush 31, 2) := by decide +kernel
theorem d2_6 : decode c2 6 = .ok (.iushr, 1) := by decide +kernel
theorem d2_7 : decode c2 7 = .ok (.i2b, 1) := by decide +kernel
theorem d2_8 : decode c2 8 = .ok (.ireturn, 1) := by decide +kernel
theorem pn_java_lang_StringUTF16 : plainName "java/lang/StringUTF16" = true := by first | (simp [plainName, overriddenIn]; done) | decide +kernel
theorem ef_rm_cfl (m : MethodId) (bd : Addr) (kd : ClassId) (nn : Int32) (mm : Int32) (vs : List Value) (dd : Value)  : entryFrame m #[(.ref bd), (.int nn)] 2 = mkF m 0 #[vR bd, vI nn] [] := by  first | (simp [entryFrame, mkF, argsToLocals, Value.category, maxLocals]; done) | rfl
def Q_rm_cfl (Z : State) (bd : Addr) (kd : ClassId) (nn : Int32) (mm : Int32) (vs : List Value) (dd : Value) (h0 : Heap) (n0 : Nat) (v : Option Value) (h : Heap) (L : List Loc) : Prop := (v = some (.int ((XT.ushr (nn - mm) (31 : Int32))).toInt8.toInt32)) ∧ (Fr n0 L) ∧ (h = h0)
set_option maxRecDepth 65536 in
set_option maxHeartbeats 40000000 in
theorem rm_cfl (l : Launch) (Z : State) (a0 : Array Value) (hw : ∀ d ∈ tables_1, d.before a0 Z = true) (ws : List Jvm.Cond) (bd : Addr) (kd : ClassId) (nn : Int32) (mm : Int32) (vs : List Value) (dd : Value) (h0 : Heap) (n0 : Nat) (Z0 : n0 ≤ h0.size) (f0 : Arv Z h0 bd kd .byte mm vs dd) :
    MetN l Z y_4 c2 2 (some .byte) ws (Rm 0 0 0 0) #[(.ref bd), (.int nn)] h0 (Q_rm_cfl Z bd kd nn mm vs dd h0 n0) := by
 refine MetFree.of_bodySF (plainFor_of_name pn_java_lang_StringUTF16) hisR ?_
 intro p e s m args below meth c s₁ Bd hml0 hP hK
 obtain ⟨rfl, hZ, hh⟩ := hP
 have hx := Bd.exec
 have hby := Bd.bytes
 have hml : c.maxLocals = 2 := hml0
 have hown : s.vm.findClass "java/lang/StringUTF16" = some m.cls := findClass_of_methodNamed Bd.named
 have X0 : Stand p l e (Rm 0 0 0 0) s m #[(.ref bd), (.int nn)] below meth c s₁ [] 0 0 := Stand.of_body Bd
 have e0 : s₁.heap = h0 := by rw [← hh, Bd.state]; rfl
 have N0 := Fr.nil n0
 have K00 : Keep h0 h0 [] := Keep.refl _ _
 show Rch p e below s₁ (entryFrame m #[(.ref bd), (.int nn)] 2) (FinP s (Q_rm_cfl Z bd kd nn mm vs dd h0 n0) 0 0)
 refine Rch.cast (ef_rm_cfl m bd kd nn mm vs dd) ?_
 show Rch p e below s₁ (mkF m 0 #[vR bd, vI nn] []) _
 refine w_iloadN (pc' := 1) X0 hx hby d2_0 rfl rfl ?_
 refine w_aloadN (pc' := 2) X0 hx hby d2_1 rfl rfl rfl ?_
 refine Rch.st (fun _ k => own_alen X0 hx hZ e0 f0 rfl rfl (hb hby d2_2) k) ?_
 show Rch p e below s₁ (mkF m 3 #[vR bd, vI nn] [(.int mm), (.int nn)]) _
 refine w_isub (pc' := 4) X0 hx hby d2_3 rfl ?_
 refine w_bipush (pc' := 6) (v := 31) X0 hx hby d2_4 rfl rfl ?_
 refine w_iushr (pc' := 7) X0 hx hby d2_6 rfl ?_
 refine w_i2b (pc' := 8) X0 hx hby d2_7 rfl ?_
 exact Rch.retV X0 hx Bd.returns (XT.narrow_b _) (Or.inl ⟨rfl, by simp, _, rfl⟩) (hb hby d2_8) (by rw [e0]; exact ⟨rfl, N0, rfl⟩) (by decide) (by decide)

abbrev c3 : ByteArray := jdk_42_method_154_code
theorem d3_0 : decode c3 0 = .ok (.getstatic 38, 3) := by decide +kernel
theorem d3_3 : decode c3 3 = .ok (.ifCond .eq 14, 3) := by decide +kernel
theorem d3_6 : decode c3 6 = .ok (.aload_n 0, 1) := by decide +kernel
theorem d3_7 : decode c3 7 = .ok (.getfield 15, 3) := by decide +kernel
theorem d3_10 : decode c3 10 = .ok (.ifCond .ne 7, 3) := by decide +kernel
theorem d3_13 : decode c3 13 = .ok (.iconst 1, 1) := by decide +kernel
theorem d3_14 : decode c3 14 = .ok (.goto 4, 3) := by decide +kernel
theorem d3_18 : decode c3 18 = .ok (.ireturn, 1) := by decide +kernel
theorem ef_rm_isl (m : MethodId) (G1 : Int32) (aa : Addr)  : entryFrame m #[(.ref aa)] 1 = mkF m 0 #[vR aa] [] := by  first | (simp [entryFrame, mkF, argsToLocals, Value.category, maxLocals]; done) | rfl
def Q_rm_isl (Z : State) (G1 : Int32) (aa : Addr) (h0 : Heap) (n0 : Nat) (v : Option Value) (h : Heap) (L : List Loc) : Prop := (v = some (.int (1 : Int32))) ∧ (Fr n0 L) ∧ (h = h0)
set_option maxRecDepth 65536 in
set_option maxHeartbeats 40000000 in
theorem rm_isl (l : Launch) (Z : State) (a0 : Array Value) (hw : ∀ d ∈ tables_1, d.before a0 Z = true) (ws : List Jvm.Cond) (G1 : Int32) (aa : Addr) (h0 : Heap) (n0 : Nat) (Z0 : n0 ≤ h0.size) (O2 : Sta Z Z.heap "java/lang/String" "COMPACT_STRINGS" "Z" (.int G1)) (P5 : ¬ G1 = 0) (f2 : Fld Z h0 aa "java/lang/String" "coder" "B" (.int (0 : Int32))) (Old0 : OldL Z n0 h0) :
    MetN l Z y_5 c3 1 (some .boolean) ws (Rm 0 0 0 0) #[(.ref aa)] h0 (Q_rm_isl Z G1 aa h0 n0) := by
 refine MetFree.of_bodySF (plainFor_of_name pn_java_lang_String) hisR ?_
 intro p e s m args below meth c s₁ Bd hml0 hP hK
 obtain ⟨rfl, hZ, hh⟩ := hP
 have hx := Bd.exec
 have hby := Bd.bytes
 have hml : c.maxLocals = 1 := hml0
 have hown : s.vm.findClass "java/lang/String" = some m.cls := findClass_of_methodNamed Bd.named
 have X0 : Stand p l e (Rm 0 0 0 0) s m #[(.ref aa)] below meth c s₁ [] 0 0 := Stand.of_body Bd
 have e0 : s₁.heap = h0 := by rw [← hh, Bd.state]; rfl
 have N0 := Fr.nil n0
 have K00 : Keep h0 h0 [] := Keep.refl _ _
 show Rch p e below s₁ (entryFrame m #[(.ref aa)] 1) (FinP s (Q_rm_isl Z G1 aa h0 n0) 0 0)
 refine Rch.cast (ef_rm_isl m G1 aa) ?_
 show Rch p e below s₁ (mkF m 0 #[vR aa] []) _
 obtain ⟨T6, X6, e6, st6⟩ := getS X0 hx hZ hown (host := "") (wi hw 18 rfl) Via.refl e0 (O2.ext Old0.2) (g := (mkF m 0 #[vR aa] [])) rfl (hb hby d3_0)
 refine Rch.st (fun _ k => st6 _ k) ?_
 show Rch p e below T6 (mkF m 3 #[vR aa] [(.int G1)]) _
 refine w_ifNo (pc' := 6) X6 hx hby d3_3 (XT.i0_eq_f (P5)) rfl ?_
 refine w_aloadN (pc' := 7) X6 hx hby d3_6 rfl rfl rfl ?_
 obtain ⟨T7, X7, e7, st7⟩ := getF X6 hx hZ hown (host := "") (Or.inl (wi hw 30 rfl)) Via.refl e6 f2 (g := (mkF m 7 #[vR aa] [(.ref aa)])) rfl rfl (hb hby d3_7)
 refine Rch.st (fun _ k => st7 _ k) ?_
 show Rch p e below T7 (mkF m 10 #[vR aa] [(.int 0)]) _
 refine w_ifNo (pc' := 13) X7 hx hby d3_10 (XT.i0_ne_f (by decide)) rfl ?_
 refine w_iconst (pc' := 14) (v := 1) X7 hx hby d3_13 rfl rfl ?_
 refine w_goto (pc' := 18) X7 hx hby d3_14 (by decide) ?_
 exact Rch.retV X7 hx Bd.returns rfl (Or.inl ⟨rfl, by simp, _, rfl⟩) (hb hby d3_18) (by rw [e7]; exact ⟨rfl, N0, rfl⟩) (by decide) (by decide)

abbrev c4 : ByteArray := jdk_29_method_69_code
theorem d4_0 : decode c4 0 = .ok (.iload_n 0, 1) := by decide +kernel
theorem d4_1 : decode c4 1 = .ok (.iload_n 1, 1) := by decide +kernel
theorem d4_2 : decode c4 2 = .ok (.if_icmp .gt 7, 3) := by decide +kernel
theorem d4_5 : decode c4 5 = .ok (.iload_n 0, 1) := by decide +kernel
theorem d4_6 : decode c4 6 = .ok (.goto 4, 3) := by decide +kernel
theorem d4_9 : decode c4 9 = .ok (.iload_n 1, 1) := by decide +kernel
theorem d4_10 : decode c4 10 = .ok (.ireturn, 1) := by decide +kernel
theorem ef_rm_min32 (m : MethodId) (xx : Int32) (yy : Int32)  : entryFrame m #[(.int xx), (.int yy)] 2 = mkF m 0 #[vI xx, vI yy] [] := by  first | (simp [entryFrame, mkF, argsToLocals, Value.category, maxLocals]; done) | rfl
def Q_rm_min32 (Z : State) (xx : Int32) (yy : Int32) (h0 : Heap) (n0 : Nat) (v : Option Value) (h : Heap) (L : List Loc) : Prop := (v = some (.int (own_min32 xx yy))) ∧ (Fr n0 L) ∧ (h = h0)
set_option maxRecDepth 65536 in
set_option maxHeartbeats 40000000 in
theorem rm_min32 (l : Launch) (Z : State) (a0 : Array Value) (hw : ∀ d ∈ tables_1, d.before a0 Z = true) (ws : List Jvm.Cond) (xx : Int32) (yy : Int32) (h0 : Heap) (n0 : Nat) (Z0 : n0 ≤ h0.size)  :
    MetN l Z y_6 c4 2 (some .int) ws (Rm 0 0 0 0) #[(.int xx), (.int yy)] h0 (Q_rm_min32 Z xx yy h0 n0) := by
 refine MetFree.of_bodySF (Jvm.Free.JP.mathPlain rfl (by decide +kernel)) hisR ?_
 intro p e s m args below meth c s₁ Bd hml0 hP hK
 obtain ⟨rfl, hZ, hh⟩ := hP
 have hx := Bd.exec
 have hby := Bd.bytes
 have hml : c.maxLocals = 2 := hml0
 have hown : s.vm.findClass "java/lang/Math" = some m.cls := findClass_of_methodNamed Bd.named
 have X0 : Stand p l e (Rm 0 0 0 0) s m #[(.int xx), (.int yy)] below meth c s₁ [] 0 0 := Stand.of_body Bd
 have e0 : s₁.heap = h0 := by rw [← hh, Bd.state]; rfl
 have N0 := Fr.nil n0
 have K00 : Keep h0 h0 [] := Keep.refl _ _
 show Rch p e below s₁ (entryFrame m #[(.int xx), (.int yy)] 2) (FinP s (Q_rm_min32 Z xx yy h0 n0) 0 0)
 refine Rch.cast (ef_rm_min32 m xx yy) ?_
 show Rch p e below s₁ (mkF m 0 #[vI xx, vI yy] []) _
 refine w_iloadN (pc' := 1) X0 hx hby d4_0 rfl rfl ?_
 refine w_iloadN (pc' := 2) X0 hx hby d4_1 rfl rfl ?_
 by_cases c8 : yy < xx
 ·skip
  refine w_icmpYes (pc' := 9) X0 hx hby d4_2 (XT.ii_gt_t (c8)) (by decide) ?_
  refine w_iloadN (pc' := 10) X0 hx hby d4_9 rfl rfl ?_
  exact Rch.retV X0 hx Bd.returns rfl (Or.inl ⟨rfl, by simp, _, rfl⟩) (hb hby d4_10) (by rw [e0]; exact ⟨by simp [own_min32, c8], N0, rfl⟩) (by decide) (by decide)
 ·skip
  refine w_icmpNo (pc' := 5) X0 hx hby d4_2 (XT.ii_gt_f (c8)) rfl ?_
  refine w_iloadN (pc' := 6) X0 hx hby d4_5 rfl rfl ?_
  refine w_goto (pc' := 10) X0 hx hby d4_6 (by decide) ?_
  exact Rch.retV X0 hx Bd.returns rfl (Or.inl ⟨rfl, by simp, _, rfl⟩) (hb hby d4_10) (by rw [e0]; exact ⟨by simp [own_min32, c8], N0, rfl⟩) (by decide) (by decide)

abbrev c5 : ByteArray := jdk_65_method_131_code
theorem d5_0 : decode c5 0 = .ok (.iload_n 1, 1) := by decide +kernel
theorem d5_1 : decode c5 1 = .ok (.iload_n 0, 1) := by decide +kernel
theorem d5_2 : decode c5 2 = .ok (.if_icmp .ge 35, 3) := by decide +kernel
theorem d5_37 : decode c5 37 = .ok (.return_, 1) := by decide +kernel
theorem pn_java_util_Arrays : plainName "java/util/Arrays" = true := by first | (simp [plainName, overriddenIn]; done) | decide +kernel
theorem ef_rm_ckl (m : MethodId) (fr : Int32) (to : Int32)  : entryFrame m #[(.int fr), (.int to)] 2 = mkF m 0 #[vI fr, vI to] [] := by  first | (simp [entryFrame, mkF, argsToLocals, Value.category, maxLocals]; done) | rfl
def Q_rm_ckl (Z : State) (fr : Int32) (to : Int32) (h0 : Heap) (n0 : Nat) (v : Option Value) (h : Heap) (L : List Loc) : Prop := (v = none) ∧ (Fr n0 L) ∧ (h = h0)
set_option maxRecDepth 65536 in
set_option maxHeartbeats 40000000 in
theorem rm_ckl (l : Launch) (Z : State) (a0 : Array Value) (hw : ∀ d ∈ tables_1, d.before a0 Z = true) (ws : List Jvm.Cond) (fr : Int32) (to : Int32) (h0 : Heap) (n0 : Nat) (Z0 : n0 ≤ h0.size) (hz0 : ¬ to < fr) :
    MetN l Z y_7 c5 2 none ws (Rm 0 0 0 0) #[(.int fr), (.int to)] h0 (Q_rm_ckl Z fr to h0 n0) := by
 refine MetFree.of_bodySF (plainFor_of_name pn_java_util_Arrays) hisR ?_
 intro p e s m args below meth c s₁ Bd hml0 hP hK
 obtain ⟨rfl, hZ, hh⟩ := hP
 have hx := Bd.exec
 have hby := Bd.bytes
 have hml : c.maxLocals = 2 := hml0
 have hown : s.vm.findClass "java/util/Arrays" = some m.cls := findClass_of_methodNamed Bd.named
 have X0 : Stand p l e (Rm 0 0 0 0) s m #[(.int fr), (.int to)] below meth c s₁ [] 0 0 := Stand.of_body Bd
 have e0 : s₁.heap = h0 := by rw [← hh, Bd.state]; rfl
 have N0 := Fr.nil n0
 have K00 : Keep h0 h0 [] := Keep.refl _ _
 show Rch p e below s₁ (entryFrame m #[(.int fr), (.int to)] 2) (FinP s (Q_rm_ckl Z fr to h0 n0) 0 0)
 refine Rch.cast (ef_rm_ckl m fr to) ?_
 show Rch p e below s₁ (mkF m 0 #[vI fr, vI to] []) _
 refine w_iloadN (pc' := 1) X0 hx hby d5_0 rfl rfl ?_
 refine w_iloadN (pc' := 2) X0 hx hby d5_1 rfl rfl ?_
 refine w_icmpYes (pc' := 37) X0 hx hby d5_2 (XT.ii_ge_t (hz0)) (by decide) ?_
 exact Rch.ret0 X0 hx Bd.returns (hb hby d5_37) (by rw [e0]; exact ⟨rfl, N0, rfl⟩) (by decide) (by decide)

abbrev c6 : ByteArray := jdk_65_method_133_code
theorem d6_0 : decode c6 0 = .ok (.iload_n 1, 1) := by decide +kernel
theorem d6_1 : decode c6 1 = .ok (.iload_n 2, 1) := by decide +kernel
theorem d6_2 : decode c6 2 = .ok (.invokestatic 343, 3) := by decide +kernel
theorem d6_5 : decode c6 5 = .ok (.iload_n 2, 1) := by decide +kernel
theorem d6_6 : decode c6 6 = .ok (.iload_n 1, 1) := by decide +kernel
theorem d6_7 : decode c6 7 = .ok (.isub, 1) := by decide +kernel
theorem d6_8 : decode c6 8 = .ok (.istore_n 3, 1) := by decide +kernel
theorem d6_9 : decode c6 9 = .ok (.iload_n 3, 1) := by decide +kernel
theorem d6_10 : decode c6 10 = .ok (.newarray .byte, 2) := by decide +kernel
theorem d6_12 : decode c6 12 = .ok (.astore 4, 2) := by decide +kernel
theorem d6_14 : decode c6 14 = .ok (.aload_n 0, 1) := by decide +kernel
theorem d6_15 : decode c6 15 = .ok (.iload_n 1, 1) := by decide +kernel
theorem d6_16 : decode c6 16 = .ok (.aload 4, 2) := by decide +kernel
theorem d6_18 : decode c6 18 = .ok (.iconst 0, 1) := by decide +kernel
theorem d6_19 : decode c6 19 = .ok (.aload_n 0, 1) := by decide +kernel
theorem d6_20 : decode c6 20 = .ok (.arraylength, 1) := by decide +kernel
theorem d6_21 : decode c6 21 = .ok (.iload_n 1, 1) := by decide +kernel
theorem d6_22 : decode c6 22 = .ok (.isub, 1) := by decide +kernel
theorem d6_23 : decode c6 23 = .ok (.iload_n 3, 1) := by decide +kernel
theorem d6_24 : decode c6 24 = .ok (.invokestatic 304, 3) := by decide +kernel
theorem d6_27 : decode c6 27 = .ok (.invokestatic 150, 3) := by decide +kernel
theorem d6_30 : decode c6 30 = .ok (.aload 4, 2) := by decide +kernel
theorem d6_32 : decode c6 32 = .ok (.areturn, 1) := by decide +kernel
theorem ef_rm_crb (m : MethodId) (bb : Addr) (kb : ClassId) (nn : Int32) (vs : List Value) (dd : Value) (en : Int32)  : entryFrame m #[(.ref bb), (.int (0 : Int32)), (.int en)] 5 = mkF m 0 #[vR bb, vI 0, vI en, U, U] [] := by  first | (simp [entryFrame, mkF, argsToLocals, Value.category, maxLocals]; done) | rfl
def Q_rm_crb (Z : State) (bb : Addr) (kb : ClassId) (nn : Int32) (vs : List Value) (dd : Value) (en : Int32) (h0 : Heap) (n0 : Nat) (v : Option Value) (h : Heap) (L : List Loc) : Prop := ∃ (t : Addr) (kt : ClassId), (v = some (.ref t)) ∧ (Fr n0 L) ∧ (Keep h0 h []) ∧ (h0.size ≤ t) ∧ (Arv Z h t kt .byte en (own_take vs dd en.toNatClampNeg) (.int (0 : Int32)))
theorem pd__II_V : parseMethodDescriptor "(II)V" = some ⟨[.int, .int], none⟩ := by decide +kernel
theorem pd__II_I : parseMethodDescriptor "(II)I" = some ⟨[.int, .int], (some .int)⟩ := by decide +kernel
set_option maxRecDepth 65536 in
set_option maxHeartbeats 40000000 in
theorem rm_crb (l : Launch) (Z : State) (a0 : Array Value) (hw : ∀ d ∈ tables_1, d.before a0 Z = true) (ws : List Jvm.Cond) (bb : Addr) (kb : ClassId) (nn : Int32) (vs : List Value) (dd : Value) (en : Int32) (h0 : Heap) (n0 : Nat) (Z0 : n0 ≤ h0.size) (f0 : Arv Z h0 bb kb .byte nn vs dd) (hz0 : ¬ en < 0) (hc : en.toNatClampNeg ≤ 16) (hm : own_min32 nn en = en) (hl : en.toNatClampNeg ≤ nn.toNatClampNeg) :
    MetN l Z y_8 c6 5 (some (.array .byte)) ws (Rm 1 1 16 18) #[(.ref bb), (.int (0 : Int32)), (.int en)] h0 (Q_rm_crb Z bb kb nn vs dd en h0 n0) := by
 refine MetFree.of_bodySF (plainFor_of_name pn_java_util_Arrays) hisR ?_
 intro p e s m args below meth c s₁ Bd hml0 hP hK
 obtain ⟨rfl, hZ, hh⟩ := hP
 have hx := Bd.exec
 have hby := Bd.bytes
 have hml : c.maxLocals = 5 := hml0
 have hown : s.vm.findClass "java/util/Arrays" = some m.cls := findClass_of_methodNamed Bd.named
 have X0 : Stand p l e (Rm 1 1 16 18) s m #[(.ref bb), (.int (0 : Int32)), (.int en)] below meth c s₁ [] 0 0 := Stand.of_body Bd
 have e0 : s₁.heap = h0 := by rw [← hh, Bd.state]; rfl
 have N0 := Fr.nil n0
 have K00 : Keep h0 h0 [] := Keep.refl _ _
 show Rch p e below s₁ (entryFrame m #[(.ref bb), (.int (0 : Int32)), (.int en)] 5) (FinP s (Q_rm_crb Z bb kb nn vs dd en h0 n0) 1 16)
 refine Rch.cast (ef_rm_crb m bb kb nn vs dd en) ?_
 show Rch p e below s₁ (mkF m 0 #[vR bb, vI 0, vI en, U, U] []) _
 refine w_iloadN (pc' := 1) X0 hx hby d6_0 rfl rfl ?_
 refine w_iloadN (pc' := 2) X0 hx hby d6_1 rfl rfl ?_
 obtain ⟨_, _, ⟨T9, L9, k9, n9⟩, -, X9, ⟨Lc9, hQ9, l9, y9, z9⟩, st9⟩ := Jvm.LawKit.callS X0 hx (y := y_7) hown (mvT hZ (wi hw 361 rfl)) (mvT hZ (wi hw 362 rfl)) (mvT hZ (wi hw 356 rfl)) (mvT hZ (wi hw 363 rfl)) (by decide) (backOf (W := 0) (rm_ckl l Z a0 hw [] 0 en h0 n0 Z0 (hz0)) hZ (wi hw 363 rfl) (wi hw 356 rfl) (by decide) (by decide)) (g := (mkF m 2 #[vR bb, vI 0, vI en, U, U] [(.int en), (.int 0)])) rfl (by rw [hml]; rfl) (argsL := [(.int 0), (.int en)]) (rest := []) (lenOf pd__II_V rfl) rfl (by show 2 * 0 + _ ≤ _; exact Nat.le_of_eq rfl) (hb hby d6_2) (fun _ _ => ⟨rfl, e0, (by decide : 0 + 0 ≤ _), (by decide : 0 + 0 ≤ _)⟩)
 dsimp only [Pt.U, Pt.locs, Pt.cells, Pt.slots] at X9 l9 y9 z9 st9 hQ9
 subst l9 y9 z9
 obtain ⟨rfl, NQ9, K9⟩ := hQ9
 have N10 := Fr.app N0 NQ9
 refine Rch.st (fun _ k => st9 _ k) ?_
 show Rch p e below T9 (mkF m 5 #[vR bb, vI 0, vI en, U, U] []) _
 refine w_iloadN (pc' := 6) X9 hx hby d6_5 rfl rfl ?_
 refine w_iloadN (pc' := 7) X9 hx hby d6_6 rfl rfl ?_
 refine w_isub (pc' := 8) X9 hx hby d6_7 rfl ?_
 have r11 : (en - (0 : Int32)) = en := by simp
 rw [r11]
 show Rch p e below T9 (mkF m 8 #[vR bb, vI 0, vI en, U, U] [(.int en)]) _
 refine w_istoreN (pc' := 9) (l' := #[vR bb, vI 0, vI en, vI en, U]) X9 hx hby d6_8 rfl rfl ?_
 refine w_iloadN (pc' := 10) X9 hx hby d6_9 rfl rfl ?_
 obtain ⟨T12, h12, kc12, X12, e12, E12, A12, st12⟩ := newP X9 hx hZ (wi hw 23 rfl) K9 (g := (mkF m 10 #[vR bb, vI 0, vI en, vI en, U] [(.int en)])) rfl (hb hby d6_10) rfl (hz0) (cap := 16) (hc) (by decide) (by decide) (by decide)
 obtain ⟨a12, g12⟩ : ∃ z, z = h0.size := ⟨_, rfl⟩
 rw [← g12] at A12 st12
 have ne13 : bb ≠ a12 := by rw [g12]; exact Nat.ne_of_lt f0.lt
 have ge14 : n0 ≤ a12 := Nat.le_trans Z0 (Nat.le_of_eq g12.symm)
 have f16 := f0.ext E12
 have Z17 := Nat.le_trans Z0 E12.1
 have Kp18 : Keep h0 h12 [] := K00.ext E12
 have f19 : Arv Z h12 a12 kc12 .byte en ([] : List Value) (Value.int (0 : Int32)) := Arv.new A12 (hz0)
 refine Rch.st (fun _ k => st12 _ k) ?_
 show Rch p e below T12 (mkF m 12 #[vR bb, vI 0, vI en, vI en, U] [(.ref a12)]) _
 refine w_astore (pc' := 14) (l' := #[vR bb, vI 0, vI en, vI en, vR a12]) X12 hx hby d6_12 rfl rfl rfl ?_
 refine w_aloadN (pc' := 15) X12 hx hby d6_14 rfl rfl rfl ?_
 refine w_iloadN (pc' := 16) X12 hx hby d6_15 rfl rfl ?_
 refine w_aload (pc' := 18) X12 hx hby d6_16 rfl rfl rfl ?_
 refine w_iconst (pc' := 19) (v := 0) X12 hx hby d6_18 rfl rfl ?_
 refine w_aloadN (pc' := 20) X12 hx hby d6_19 rfl rfl rfl ?_
 refine Rch.st (fun _ k => own_alen X12 hx hZ e12 f16 rfl rfl (hb hby d6_20) k) ?_
 show Rch p e below T12 (mkF m 21 #[vR bb, vI 0, vI en, vI en, vR a12] [(.int nn), (.int 0), (.ref a12), (.int 0), (.ref bb)]) _
 refine w_iloadN (pc' := 22) X12 hx hby d6_21 rfl rfl ?_
 refine w_isub (pc' := 23) X12 hx hby d6_22 rfl ?_
 have r20 : (nn - (0 : Int32)) = nn := by simp
 rw [r20]
 show Rch p e below T12 (mkF m 23 #[vR bb, vI 0, vI en, vI en, vR a12] [(.int nn), (.int 0), (.ref a12), (.int 0), (.ref bb)]) _
 refine w_iloadN (pc' := 24) X12 hx hby d6_23 rfl rfl ?_
 obtain ⟨_, _, ⟨T21, L21, k21, n21⟩, -, X21, ⟨Lc21, hQ21, l21, y21, z21⟩, st21⟩ := Jvm.LawKit.callS X12 hx (y := y_6) hown (mvT hZ (wi hw 364 rfl)) (mvT hZ (wi hw 365 rfl)) (mvT hZ (wi hw 366 rfl)) (mvT hZ (wi hw 367 rfl)) (by decide) (backOf (W := 4) (rm_min32 l Z a0 hw [] nn en h12 n0 Z17 ) hZ (wi hw 367 rfl) (wi hw 366 rfl) (by decide) (by decide)) (g := (mkF m 24 #[vR bb, vI 0, vI en, vI en, vR a12] [(.int en), (.int nn), (.int 0), (.ref a12), (.int 0), (.ref bb)])) rfl (by rw [hml]; rfl) (argsL := [(.int nn), (.int en)]) (rest := [(.int 0), (.ref a12), (.int 0), (.ref bb)]) (lenOf pd__II_I rfl) rfl (by show 2 * 0 + _ ≤ _; exact Nat.le_of_eq rfl) (hb hby d6_24) (fun _ _ => ⟨rfl, e12, (by decide : 1 + 0 ≤ _), (by decide : 16 + 0 ≤ _)⟩)
 dsimp only [Pt.U, Pt.locs, Pt.cells, Pt.slots] at X21 l21 y21 z21 st21 hQ21
 subst l21 y21 z21
 obtain ⟨rfl, NQ21, K21⟩ := hQ21
 have N22 := Fr.app N10 NQ21
 refine Rch.st (fun _ k => st21 _ k) ?_
 show Rch p e below T21 (mkF m 27 #[vR bb, vI 0, vI en, vI en, vR a12] [(.int (own_min32 nn en)), (.int 0), (.ref a12), (.int 0), (.ref bb)]) _
 have r23 : (own_min32 nn en) = en := hm
 rw [r23]
 show Rch p e below T21 (mkF m 27 #[vR bb, vI 0, vI en, vI en, vR a12] [(.int en), (.int 0), (.ref a12), (.int 0), (.ref bb)]) _
 have f24 : Arv Z h12 a12 kc12 .byte en (([] : List Value) ++ List.replicate en.toNatClampNeg (Value.int (0 : Int32))) (Value.int (0 : Int32)) := f19.pad (pad_rep ([] : List Value) (Value.int (0 : Int32)) en.toNatClampNeg)
 obtain ⟨T25, h25, L25, X25, e25, N25, K25, V25, st25⟩ := cpA (us := (own_take vs dd en.toNatClampNeg)) X21 hx hZ hown (wi hw 368 rfl) (wi hw 322 rfl) (wi hw 320 rfl) (wi hw 321 rfl) K21 f16 f24 (Or.inl ⟨rfl, rfl⟩) (by decide) (by decide) (hz0) (by rw [own_z0, Nat.zero_add]; exact hl) (by rw [own_z0, Nat.zero_add]; exact Nat.le_refl _) (own_take_hus _ _ _) (by rw [own_z0]; simp) N22 ge14 (g := (mkF m 27 #[vR bb, vI 0, vI en, vI en, vR a12] [(.int en), (.int 0), (.ref a12), (.int 0), (.ref bb)])) rfl (by rw [hml]; rfl) rfl (hb hby d6_27) (by decide) (W := 0) (by show 2 * 0 + _ ≤ _; exact Nat.le_of_eq rfl) (by decide)
 have f26 := f16.keep K25 (ninS ne13 nin0)
 have Kp28 : Keep h0 h25 [] := Kp18.trans K25 (allS (Or.inr (Nat.le_trans K00.1 (Nat.le_of_eq g12.symm))) all0)
 have f29 : Arv Z h25 a12 kc12 .byte en (own_take vs dd en.toNatClampNeg) (Value.int (0 : Int32)) := by have z := V25; rw [show (([] : List Value) ++ List.replicate en.toNatClampNeg (Value.int (0 : Int32))).take (0 : Int32).toNatClampNeg ++ (own_take vs dd en.toNatClampNeg) ++ (([] : List Value) ++ List.replicate en.toNatClampNeg (Value.int (0 : Int32))).drop ((0 : Int32).toNatClampNeg + en.toNatClampNeg) = (own_take vs dd en.toNatClampNeg) from by rw [own_z0]; simp] at z; exact z
 refine Rch.st (fun _ k => st25 _ k) ?_
 show Rch p e below T25 (mkF m 30 #[vR bb, vI 0, vI en, vI en, vR a12] []) _
 refine w_aload (pc' := 32) X25 hx hby d6_30 rfl rfl rfl ?_
 exact Rch.retV X25 hx Bd.returns rfl (Or.inr (Or.inr (Or.inr (Or.inr ⟨rfl, rfl, rfl⟩)))) (hb hby d6_32) (by rw [e25]; exact ⟨a12, kc12, rfl, N25, Kp28, (Nat.le_trans K00.1 (Nat.le_of_eq g12.symm)), f29⟩) (by decide) (by decide)

abbrev c7 : ByteArray := jdk_65_method_132_code
theorem d7_0 : decode c7 0 = .ok (.iload_n 1, 1) := by decide +kernel
theorem d7_1 : decode c7 1 = .ok (.ifCond .ne 9, 3) := by decide +kernel
theorem d7_4 : decode c7 4 = .ok (.iload_n 2, 1) := by decide +kernel
theorem d7_5 : decode c7 5 = .ok (.aload_n 0, 1) := by decide +kernel
theorem d7_6 : decode c7 6 = .ok (.arraylength, 1) := by decide +kernel
theorem d7_7 : decode c7 7 = .ok (.if_icmp .eq 10, 3) := by decide +kernel
theorem d7_10 : decode c7 10 = .ok (.aload_n 0, 1) := by decide +kernel
theorem d7_11 : decode c7 11 = .ok (.iload_n 1, 1) := by decide +kernel
theorem d7_12 : decode c7 12 = .ok (.iload_n 2, 1) := by decide +kernel
theorem d7_13 : decode c7 13 = .ok (.invokestatic 339, 3) := by decide +kernel
theorem d7_16 : decode c7 16 = .ok (.areturn, 1) := by decide +kernel
theorem ef_rm_cr (m : MethodId) (bb : Addr) (kb : ClassId) (nn : Int32) (vs : List Value) (dd : Value) (en : Int32)  : entryFrame m #[(.ref bb), (.int (0 : Int32)), (.int en)] 3 = mkF m 0 #[vR bb, vI 0, vI en] [] := by  first | (simp [entryFrame, mkF, argsToLocals, Value.category, maxLocals]; done) | rfl
def Q_rm_cr (Z : State) (bb : Addr) (kb : ClassId) (nn : Int32) (vs : List Value) (dd : Value) (en : Int32) (h0 : Heap) (n0 : Nat) (v : Option Value) (h : Heap) (L : List Loc) : Prop := ∃ (t : Addr) (kt : ClassId), (v = some (.ref t)) ∧ (Fr n0 L) ∧ (Keep h0 h []) ∧ (h0.size ≤ t) ∧ (Arv Z h t kt .byte en (own_take vs dd en.toNatClampNeg) (.int (0 : Int32)))
theorem pd___BII__B : parseMethodDescriptor "([BII)[B" = some ⟨[(.array .byte), .int, .int], (some (.array .byte))⟩ := by decide +kernel
set_option maxRecDepth 65536 in
set_option maxHeartbeats 40000000 in
theorem rm_cr (l : Launch) (Z : State) (a0 : Array Value) (hw : ∀ d ∈ tables_1, d.before a0 Z = true) (ws : List Jvm.Cond) (bb : Addr) (kb : ClassId) (nn : Int32) (vs : List Value) (dd : Value) (en : Int32) (h0 : Heap) (n0 : Nat) (Z0 : n0 ≤ h0.size) (f0 : Arv Z h0 bb kb .byte nn vs dd) (hz0 : ¬ en < 0) (hc : en.toNatClampNeg ≤ 16) (hm : own_min32 nn en = en) (hl : en.toNatClampNeg ≤ nn.toNatClampNeg) (hne : ¬ en = nn) :
    MetN l Z y_9 c7 3 (some (.array .byte)) ws (Rm 2 1 16 34) #[(.ref bb), (.int (0 : Int32)), (.int en)] h0 (Q_rm_cr Z bb kb nn vs dd en h0 n0) := by
 refine MetFree.of_bodySF (plainFor_of_name pn_java_util_Arrays) hisR ?_
 intro p e s m args below meth c s₁ Bd hml0 hP hK
 obtain ⟨rfl, hZ, hh⟩ := hP
 have hx := Bd.exec
 have hby := Bd.bytes
 have hml : c.maxLocals = 3 := hml0
 have hown : s.vm.findClass "java/util/Arrays" = some m.cls := findClass_of_methodNamed Bd.named
 have X0 : Stand p l e (Rm 2 1 16 34) s m #[(.ref bb), (.int (0 : Int32)), (.int en)] below meth c s₁ [] 0 0 := Stand.of_body Bd
 have e0 : s₁.heap = h0 := by rw [← hh, Bd.state]; rfl
 have N0 := Fr.nil n0
 have K00 : Keep h0 h0 [] := Keep.refl _ _
 show Rch p e below s₁ (entryFrame m #[(.ref bb), (.int (0 : Int32)), (.int en)] 3) (FinP s (Q_rm_cr Z bb kb nn vs dd en h0 n0) 1 16)
 refine Rch.cast (ef_rm_cr m bb kb nn vs dd en) ?_
 show Rch p e below s₁ (mkF m 0 #[vR bb, vI 0, vI en] []) _
 refine w_iloadN (pc' := 1) X0 hx hby d7_0 rfl rfl ?_
 refine w_ifNo (pc' := 4) X0 hx hby d7_1 (XT.i0_ne_f (by decide)) rfl ?_
 refine w_iloadN (pc' := 5) X0 hx hby d7_4 rfl rfl ?_
 refine w_aloadN (pc' := 6) X0 hx hby d7_5 rfl rfl rfl ?_
 refine Rch.st (fun _ k => own_alen X0 hx hZ e0 f0 rfl rfl (hb hby d7_6) k) ?_
 show Rch p e below s₁ (mkF m 7 #[vR bb, vI 0, vI en] [(.int nn), (.int en)]) _
 refine w_icmpNo (pc' := 10) X0 hx hby d7_7 (XT.ii_eq_f (hne)) rfl ?_
 refine w_aloadN (pc' := 11) X0 hx hby d7_10 rfl rfl rfl ?_
 refine w_iloadN (pc' := 12) X0 hx hby d7_11 rfl rfl ?_
 refine w_iloadN (pc' := 13) X0 hx hby d7_12 rfl rfl ?_
 obtain ⟨_, _, ⟨T30, L30, k30, n30⟩, -, X30, ⟨Lc30, hQ30, l30, y30, z30⟩, st30⟩ := Jvm.LawKit.callS X0 hx (y := y_8) hown (mvT hZ (wi hw 358 rfl)) (mvT hZ (wi hw 359 rfl)) (mvT hZ (wi hw 356 rfl)) (mvT hZ (wi hw 360 rfl)) (by decide) (backOf (W := 0) (rm_crb l Z a0 hw [] bb kb nn vs dd en h0 n0 Z0 f0 (hz0) (hc) (hm) (hl)) hZ (wi hw 360 rfl) (wi hw 356 rfl) (by decide) (by decide)) (g := (mkF m 13 #[vR bb, vI 0, vI en] [(.int en), (.int 0), (.ref bb)])) rfl (by rw [hml]; rfl) (argsL := [(.ref bb), (.int 0), (.int en)]) (rest := []) (lenOf pd___BII__B rfl) rfl (by show 2 * 0 + _ ≤ _; exact Nat.le_of_eq rfl) (hb hby d7_13) (fun _ _ => ⟨rfl, e0, (by decide : 0 + 1 ≤ _), (by decide : 0 + 16 ≤ _)⟩)
 dsimp only [Pt.U, Pt.locs, Pt.cells, Pt.slots] at X30 l30 y30 z30 st30 hQ30
 subst l30 y30 z30
 obtain ⟨t_30, kt_30, rfl, NQ30, K30, pq30_0, fq30_0⟩ := hQ30
 have N31 := Fr.app N0 NQ30
 have f34 := f0.keep K30 nin0
 have Kp35 : Keep h0 T30.heap [] := K00.trans K30 all0
 refine Rch.st (fun _ k => st30 _ k) ?_
 show Rch p e below T30 (mkF m 16 #[vR bb, vI 0, vI en] [(.ref t_30)]) _
 exact Rch.retV X30 hx Bd.returns rfl (Or.inr (Or.inr (Or.inr (Or.inr ⟨rfl, rfl, rfl⟩)))) (hb hby d7_16) (by rw [(rfl : T30.heap = T30.heap)]; exact ⟨t_30, kt_30, rfl, N31, Kp35, (Nat.le_trans K00.1 pq30_0), fq30_0⟩) (by decide) (by decide)

abbrev c8 : ByteArray := jdk_68_method_2_code
theorem d8_0 : decode c8 0 = .ok (.aload_n 0, 1) := by decide +kernel
theorem d8_1 : decode c8 1 = .ok (.invokespecial 3, 3) := by decide +kernel
theorem d8_4 : decode c8 4 = .ok (.getstatic 18, 3) := by decide +kernel
theorem d8_7 : decode c8 7 = .ok (.ifCond .eq 18, 3) := by decide +kernel
theorem d8_10 : decode c8 10 = .ok (.aload_n 0, 1) := by decide +kernel
theorem d8_11 : decode c8 11 = .ok (.iload_n 1, 1) := by decide +kernel
theorem d8_12 : decode c8 12 = .ok (.newarray .byte, 2) := by decide +kernel
theorem d8_14 : decode c8 14 = .ok (.putfield 15, 3) := by decide +kernel
theorem d8_17 : decode c8 17 = .ok (.aload_n 0, 1) := by decide +kernel
theorem d8_18 : decode c8 18 = .ok (.iconst 0, 1) := by decide +kernel
theorem d8_19 : decode c8 19 = .ok (.putfield 22, 3) := by decide +kernel
theorem d8_22 : decode c8 22 = .ok (.goto 16, 3) := by decide +kernel
theorem d8_38 : decode c8 38 = .ok (.return_, 1) := by decide +kernel
theorem pn_java_lang_AbstractStringBuilder : plainName "java/lang/AbstractStringBuilder" = true := by first | (simp [plainName, overriddenIn]; done) | decide +kernel
theorem ef_rm_Ai (m : MethodId) (G1 : Int32) (sb : Addr)  : entryFrame m #[(.ref sb), (.int (16 : Int32))] 2 = mkF m 0 #[vR sb, vI 16] [] := by  first | (simp [entryFrame, mkF, argsToLocals, Value.category, maxLocals]; done) | rfl
def Q_rm_Ai (Z : State) (G1 : Int32) (sb : Addr) (h0 : Heap) (n0 : Nat) (v : Option Value) (h : Heap) (L : List Loc) : Prop := ∃ (t : Addr) (kt : ClassId), (v = none) ∧ (Fr n0 L) ∧ (Keep h0 h [sb]) ∧ (h0.size ≤ t) ∧ (Fld Z h sb "java/lang/AbstractStringBuilder" "value" "[B" (.ref t)) ∧ (Fld Z h sb "java/lang/AbstractStringBuilder" "coder" "B" (.int (0 : Int32))) ∧ (Fld Z h sb "java/lang/AbstractStringBuilder" "count" "I" (.int (0 : Int32))) ∧ (Arv Z h t kt .byte (16 : Int32) ([] : List Value) (Value.int (0 : Int32)))
set_option maxRecDepth 65536 in
set_option maxHeartbeats 40000000 in
theorem rm_Ai (l : Launch) (Z : State) (a0 : Array Value) (hw : ∀ d ∈ tables_1, d.before a0 Z = true) (ws : List Jvm.Cond) (G1 : Int32) (sb : Addr) (h0 : Heap) (n0 : Nat) (Z0 : n0 ≤ h0.size) (O2 : Sta Z Z.heap "java/lang/String" "COMPACT_STRINGS" "Z" (.int G1)) (P5 : ¬ G1 = 0) (f2 : Exa Z h0 sb "java/lang/StringBuilder") (f3 : Fld Z h0 sb "java/lang/AbstractStringBuilder" "value" "[B" .null) (f4 : Fld Z h0 sb "java/lang/AbstractStringBuilder" "coder" "B" (.int (0 : Int32))) (f5 : Fld Z h0 sb "java/lang/AbstractStringBuilder" "count" "I" (.int (0 : Int32))) (ga : n0 ≤ sb) (Old0 : OldL Z n0 h0) :
    MetN l Z y_10 c8 2 none ws (Rm 1 1 16 12) #[(.ref sb), (.int (16 : Int32))] h0 (Q_rm_Ai Z G1 sb h0 n0) := by
 refine MetFree.of_bodySF (plainFor_of_name pn_java_lang_AbstractStringBuilder) hisR ?_
 intro p e s m args below meth c s₁ Bd hml0 hP hK
 obtain ⟨rfl, hZ, hh⟩ := hP
 have hx := Bd.exec
 have hby := Bd.bytes
 have hml : c.maxLocals = 2 := hml0
 have hown : s.vm.findClass "java/lang/AbstractStringBuilder" = some m.cls := findClass_of_methodNamed Bd.named
 have X0 : Stand p l e (Rm 1 1 16 12) s m #[(.ref sb), (.int (16 : Int32))] below meth c s₁ [] 0 0 := Stand.of_body Bd
 have e0 : s₁.heap = h0 := by rw [← hh, Bd.state]; rfl
 have N0 := Fr.nil n0
 have K00 : Keep h0 h0 [sb] := Keep.refl _ _
 show Rch p e below s₁ (entryFrame m #[(.ref sb), (.int (16 : Int32))] 2) (FinP s (Q_rm_Ai Z G1 sb h0 n0) 1 16)
 refine Rch.cast (ef_rm_Ai m G1 sb) ?_
 show Rch p e below s₁ (mkF m 0 #[vR sb, vI 16] []) _
 refine w_aloadN (pc' := 1) X0 hx hby d8_0 rfl rfl rfl ?_
 obtain ⟨T37, X37, e37, st37⟩ := initO X0 hx hZ hown (wi hw 270 rfl) (wi hw 16 rfl) (wi hw 17 rfl) e0 (g := (mkF m 1 #[vR sb, vI 16] [(.ref sb)])) rfl (by rw [hml]; rfl) rfl (hb hby d8_1) (by decide) (W := 0) (by show 2 * 0 + _ ≤ _; exact Nat.le_of_eq rfl) (by decide)
 refine Rch.st (fun _ k => st37 _ k) ?_
 show Rch p e below T37 (mkF m 4 #[vR sb, vI 16] []) _
 obtain ⟨T38, X38, e38, st38⟩ := getS X37 hx hZ hown (host := "") (wi hw 271 rfl) Via.refl e37 (O2.ext Old0.2) (g := (mkF m 4 #[vR sb, vI 16] [])) rfl (hb hby d8_4)
 refine Rch.st (fun _ k => st38 _ k) ?_
 show Rch p e below T38 (mkF m 7 #[vR sb, vI 16] [(.int G1)]) _
 refine w_ifNo (pc' := 10) X38 hx hby d8_7 (XT.i0_eq_f (P5)) rfl ?_
 refine w_aloadN (pc' := 11) X38 hx hby d8_10 rfl rfl rfl ?_
 refine w_iloadN (pc' := 12) X38 hx hby d8_11 rfl rfl ?_
 obtain ⟨T39, h39, kc39, X39, e39, E39, A39, st39⟩ := newP X38 hx hZ (wi hw 23 rfl) e38 (g := (mkF m 12 #[vR sb, vI 16] [(.int 16), (.ref sb)])) rfl (hb hby d8_12) rfl (by decide) (cap := 16) (by decide) (by decide) (by decide) (by decide)
 obtain ⟨a39, g39⟩ : ∃ z, z = h0.size := ⟨_, rfl⟩
 rw [← g39] at A39 st39
 have ne40 : sb ≠ a39 := by rw [g39]; exact Nat.ne_of_lt f2.lt
 have f43 := f2.ext E39
 have f44 := f3.ext E39
 have f45 := f4.ext E39
 have f46 := f5.ext E39
 have Kp49 : Keep h0 h39 [sb] := K00.ext E39
 have f50 : Arv Z h39 a39 kc39 .byte (16 : Int32) ([] : List Value) (Value.int (0 : Int32)) := Arv.new A39 (by decide)
 refine Rch.st (fun _ k => st39 _ k) ?_
 show Rch p e below T39 (mkF m 14 #[vR sb, vI 16] [(.ref a39), (.ref sb)]) _
 obtain ⟨T51, h51, X51, e51, W51, st51⟩ := putF X39 hx hZ hown (host := "") (Or.inl (wi hw 272 rfl)) Via.refl e39 f44 f43 (Or.inl (wi hw 273 rfl)) (wi hw 259 rfl) (ty := (.array .byte)) (by decide) rfl rfl (g := (mkF m 14 #[vR sb, vI 16] [(.ref a39), (.ref sb)])) rfl rfl (hb hby d8_14)
 have N52 := Fr.snoc X51 N0 ga
 have f53 := f43.wr W51
 have f54 := f44.same W51
 have f55 := f45.other W51 (Or.inr (slot_ne (t := .byte) (t' := (.array .byte)) (Or.inl (wi hw 275 rfl)) (Or.inl (wi hw 273 rfl)) (by decide) (by decide) (by decide)))
 have f56 := f46.other W51 (Or.inr (slot_ne (t := .int) (t' := (.array .byte)) (Or.inl (wi hw 297 rfl)) (Or.inl (wi hw 273 rfl)) (by decide) (by decide) (by decide)))
 have f57 := f50.other W51 (Ne.symm ne40)
 have Kp60 : Keep h0 h51 [sb] := Kp49.wr W51 (Or.inl (List.mem_of_getElem? (i := 0) rfl))
 refine Rch.st (fun _ k => st51 _ k) ?_
 show Rch p e below T51 (mkF m 17 #[vR sb, vI 16] []) _
 refine w_aloadN (pc' := 18) X51 hx hby d8_17 rfl rfl rfl ?_
 refine w_iconst (pc' := 19) (v := 0) X51 hx hby d8_18 rfl rfl ?_
 obtain ⟨T61, h61, X61, e61, W61, st61⟩ := putF X51 hx hZ hown (host := "") (Or.inl (wi hw 274 rfl)) Via.refl e51 f55 f53 (Or.inl (wi hw 275 rfl)) (wi hw 259 rfl) (ty := .byte) (by decide) rfl rfl (g := (mkF m 19 #[vR sb, vI 16] [(.int 0), (.ref sb)])) rfl rfl (hb hby d8_19)
 have N62 := Fr.snoc X61 N52 ga
 have f64 := f54.other W61 (Or.inr (slot_ne (t := (.array .byte)) (t' := .byte) (Or.inl (wi hw 273 rfl)) (Or.inl (wi hw 275 rfl)) (by decide) (by decide) (by decide)))
 have f65 := f55.same W61
 have f66 := f56.other W61 (Or.inr (slot_ne (t := .int) (t' := .byte) (Or.inl (wi hw 297 rfl)) (Or.inl (wi hw 275 rfl)) (by decide) (by decide) (by decide)))
 have f67 := f57.other W61 (Ne.symm ne40)
 have Kp70 : Keep h0 h61 [sb] := Kp60.wr W61 (Or.inl (List.mem_of_getElem? (i := 0) rfl))
 refine Rch.st (fun _ k => st61 _ k) ?_
 show Rch p e below T61 (mkF m 22 #[vR sb, vI 16] []) _
 refine w_goto (pc' := 38) X61 hx hby d8_22 (by decide) ?_
 exact Rch.ret0 X61 hx Bd.returns (hb hby d8_38) (by rw [e61]; exact ⟨a39, kc39, rfl, N62, Kp70, (Nat.le_trans K00.1 (Nat.le_of_eq g39.symm)), f64, f65, f66, f67⟩) (by decide) (by decide)

abbrev c9 : ByteArray := jdk_67_method_1_code
theorem d9_0 : decode c9 0 = .ok (.aload_n 0, 1) := by decide +kernel
theorem d9_1 : decode c9 1 = .ok (.bipush 16, 2) := by decide +kernel
theorem d9_3 : decode c9 3 = .ok (.invokespecial 1, 3) := by decide +kernel
theorem d9_6 : decode c9 6 = .ok (.return_, 1) := by decide +kernel
theorem pn_java_lang_StringBuilder : plainName "java/lang/StringBuilder" = true := by first | (simp [plainName, overriddenIn]; done) | decide +kernel
theorem ef_rm_Bi (m : MethodId) (G1 : Int32) (sb : Addr)  : entryFrame m #[(.ref sb)] 1 = mkF m 0 #[vR sb] [] := by  first | (simp [entryFrame, mkF, argsToLocals, Value.category, maxLocals]; done) | rfl
def Q_rm_Bi (Z : State) (G1 : Int32) (sb : Addr) (h0 : Heap) (n0 : Nat) (v : Option Value) (h : Heap) (L : List Loc) : Prop := ∃ (t : Addr) (kt : ClassId), (v = none) ∧ (Fr n0 L) ∧ (Keep h0 h [sb]) ∧ (h0.size ≤ t) ∧ (Fld Z h sb "java/lang/AbstractStringBuilder" "value" "[B" (.ref t)) ∧ (Fld Z h sb "java/lang/AbstractStringBuilder" "coder" "B" (.int (0 : Int32))) ∧ (Fld Z h sb "java/lang/AbstractStringBuilder" "count" "I" (.int (0 : Int32))) ∧ (Arv Z h t kt .byte (16 : Int32) ([] : List Value) (Value.int (0 : Int32)))
theorem pd__I_V : parseMethodDescriptor "(I)V" = some ⟨[.int], none⟩ := by decide +kernel
set_option maxRecDepth 65536 in
set_option maxHeartbeats 40000000 in
theorem rm_Bi (l : Launch) (Z : State) (a0 : Array Value) (hw : ∀ d ∈ tables_1, d.before a0 Z = true) (ws : List Jvm.Cond) (G1 : Int32) (sb : Addr) (h0 : Heap) (n0 : Nat) (Z0 : n0 ≤ h0.size) (O2 : Sta Z Z.heap "java/lang/String" "COMPACT_STRINGS" "Z" (.int G1)) (P5 : ¬ G1 = 0) (f2 : Exa Z h0 sb "java/lang/StringBuilder") (f3 : Fld Z h0 sb "java/lang/AbstractStringBuilder" "value" "[B" .null) (f4 : Fld Z h0 sb "java/lang/AbstractStringBuilder" "coder" "B" (.int (0 : Int32))) (f5 : Fld Z h0 sb "java/lang/AbstractStringBuilder" "count" "I" (.int (0 : Int32))) (ga : n0 ≤ sb) (Old0 : OldL Z n0 h0) :
    MetN l Z y_11 c9 1 none ws (Rm 2 1 16 25) #[(.ref sb)] h0 (Q_rm_Bi Z G1 sb h0 n0) := by
 refine MetFree.of_bodySF (plainFor_of_name pn_java_lang_StringBuilder) hisR ?_
 intro p e s m args below meth c s₁ Bd hml0 hP hK
 obtain ⟨rfl, hZ, hh⟩ := hP
 have hx := Bd.exec
 have hby := Bd.bytes
 have hml : c.maxLocals = 1 := hml0
 have hown : s.vm.findClass "java/lang/StringBuilder" = some m.cls := findClass_of_methodNamed Bd.named
 have X0 : Stand p l e (Rm 2 1 16 25) s m #[(.ref sb)] below meth c s₁ [] 0 0 := Stand.of_body Bd
 have e0 : s₁.heap = h0 := by rw [← hh, Bd.state]; rfl
 have N0 := Fr.nil n0
 have K00 : Keep h0 h0 [sb] := Keep.refl _ _
 show Rch p e below s₁ (entryFrame m #[(.ref sb)] 1) (FinP s (Q_rm_Bi Z G1 sb h0 n0) 1 16)
 refine Rch.cast (ef_rm_Bi m G1 sb) ?_
 show Rch p e below s₁ (mkF m 0 #[vR sb] []) _
 refine w_aloadN (pc' := 1) X0 hx hby d9_0 rfl rfl rfl ?_
 refine w_bipush (pc' := 3) (v := 16) X0 hx hby d9_1 rfl rfl ?_
 obtain ⟨_, _, ⟨T71, L71, k71, n71⟩, -, X71, ⟨Lc71, hQ71, l71, y71, z71⟩, st71⟩ := X0.specialBack hx (y := y_10) rfl hown (mvT hZ (wi hw 264 rfl)) (mvT hZ (wi hw 265 rfl)) (mvT hZ (wi hw 269 rfl)) (by decide) (backOf (W := 0) (rm_Ai l Z a0 hw [] G1 sb h0 n0 Z0 (O2) (P5) f2 f3 f4 f5 (ga) Old0) hZ (wi hw 269 rfl) (wi hw 268 rfl) (by decide) (by decide)) (g := (mkF m 3 #[vR sb] [(.int 16), (.ref sb)])) rfl (by rw [hml]; rfl) (Steps.refl _) (a := sb) (argsL := [(.int 16)]) (rest := []) (lenOf pd__I_V rfl) rfl (by show 2 * 0 + _ ≤ _; exact Nat.le_of_eq rfl) (hb hby d9_3) (fun _ _ => ⟨rfl, e0, (by decide : 0 + 1 ≤ _), (by decide : 0 + 16 ≤ _)⟩)
 dsimp only [Pt.U, Pt.locs, Pt.cells, Pt.slots] at X71 l71 y71 z71 st71 hQ71
 subst l71 y71 z71
 obtain ⟨t_71, kt_71, rfl, NQ71, K71, pq71_0, fq71_0, fq71_1, fq71_2, fq71_3⟩ := hQ71
 have N72 := Fr.app N0 NQ71
 have Kp77 : Keep h0 T71.heap [sb] := K00.trans K71 (allS (Or.inl (List.mem_of_getElem? (i := 0) rfl)) all0)
 refine Rch.st (fun _ k => st71.trans k) ?_
 show Rch p e below T71 (mkF m 6 #[vR sb] []) _
 exact Rch.ret0 X71 hx Bd.returns (hb hby d9_6) (by rw [(rfl : T71.heap = T71.heap)]; exact ⟨t_71, kt_71, rfl, N72, Kp77, (Nat.le_trans K00.1 pq71_0), fq71_0, fq71_1, fq71_2, fq71_3⟩) (by decide) (by decide)

abbrev c10 : ByteArray := jdk_68_method_9_code
theorem d10_0 : decode c10 0 = .ok (.aload_n 0, 1) := by decide +kernel
theorem d10_1 : decode c10 1 = .ok (.getfield 15, 3) := by decide +kernel
theorem d10_4 : decode c10 4 = .ok (.arraylength, 1) := by decide +kernel
theorem d10_5 : decode c10 5 = .ok (.aload_n 0, 1) := by decide +kernel
theorem d10_6 : decode c10 6 = .ok (.getfield 22, 3) := by decide +kernel
theorem d10_9 : decode c10 9 = .ok (.ishr, 1) := by decide +kernel
theorem d10_10 : decode c10 10 = .ok (.istore_n 2, 1) := by decide +kernel
theorem d10_11 : decode c10 11 = .ok (.iload_n 1, 1) := by decide +kernel
theorem d10_12 : decode c10 12 = .ok (.iload_n 2, 1) := by decide +kernel
theorem d10_13 : decode c10 13 = .ok (.isub, 1) := by decide +kernel
theorem d10_14 : decode c10 14 = .ok (.ifCond .le 24, 3) := by decide +kernel
theorem d10_38 : decode c10 38 = .ok (.return_, 1) := by decide +kernel
theorem ef_rm_en (m : MethodId) (sb : Addr) (vb : Addr) (kv : ClassId) (kk : Int32) (pre : List Value) (mm : Int32)  : entryFrame m #[(.ref sb), (.int mm)] 3 = mkF m 0 #[vR sb, vI mm, U] [] := by  first | (simp [entryFrame, mkF, argsToLocals, Value.category, maxLocals]; done) | rfl
def Q_rm_en (Z : State) (sb : Addr) (vb : Addr) (kv : ClassId) (kk : Int32) (pre : List Value) (mm : Int32) (h0 : Heap) (n0 : Nat) (v : Option Value) (h : Heap) (L : List Loc) : Prop := (v = none) ∧ (Fr n0 L) ∧ (h = h0)
set_option maxRecDepth 65536 in
set_option maxHeartbeats 40000000 in
theorem rm_en (l : Launch) (Z : State) (a0 : Array Value) (hw : ∀ d ∈ tables_1, d.before a0 Z = true) (ws : List Jvm.Cond) (sb : Addr) (vb : Addr) (kv : ClassId) (kk : Int32) (pre : List Value) (mm : Int32) (h0 : Heap) (n0 : Nat) (Z0 : n0 ≤ h0.size) (f0 : Exa Z h0 sb "java/lang/StringBuilder") (f1 : Fld Z h0 sb "java/lang/AbstractStringBuilder" "value" "[B" (.ref vb)) (f2 : Fld Z h0 sb "java/lang/AbstractStringBuilder" "coder" "B" (.int (0 : Int32))) (f3 : Fld Z h0 sb "java/lang/AbstractStringBuilder" "count" "I" (.int kk)) (f4 : Arv Z h0 vb kv .byte (16 : Int32) pre (Value.int (0 : Int32))) (hcap : ¬ (0 : Int32) < (mm - (16 : Int32))) :
    MetN l Z y_12 c10 3 none ws (Rm 0 0 0 0) #[(.ref sb), (.int mm)] h0 (Q_rm_en Z sb vb kv kk pre mm h0 n0) := by
 refine MetFree.of_bodySF (plainFor_of_name pn_java_lang_AbstractStringBuilder) hisR ?_
 intro p e s m args below meth c s₁ Bd hml0 hP hK
 obtain ⟨rfl, hZ, hh⟩ := hP
 have hx := Bd.exec
 have hby := Bd.bytes
 have hml : c.maxLocals = 3 := hml0
 have hown : s.vm.findClass "java/lang/AbstractStringBuilder" = some m.cls := findClass_of_methodNamed Bd.named
 have X0 : Stand p l e (Rm 0 0 0 0) s m #[(.ref sb), (.int mm)] below meth c s₁ [] 0 0 := Stand.of_body Bd
 have e0 : s₁.heap = h0 := by rw [← hh, Bd.state]; rfl
 have N0 := Fr.nil n0
 have K00 : Keep h0 h0 [] := Keep.refl _ _
 show Rch p e below s₁ (entryFrame m #[(.ref sb), (.int mm)] 3) (FinP s (Q_rm_en Z sb vb kv kk pre mm h0 n0) 0 0)
 refine Rch.cast (ef_rm_en m sb vb kv kk pre mm) ?_
 show Rch p e below s₁ (mkF m 0 #[vR sb, vI mm, U] []) _
 refine w_aloadN (pc' := 1) X0 hx hby d10_0 rfl rfl rfl ?_
 obtain ⟨T79, X79, e79, st79⟩ := getF X0 hx hZ hown (host := "") (Or.inl (wi hw 272 rfl)) Via.refl e0 f1 (g := (mkF m 1 #[vR sb, vI mm, U] [(.ref sb)])) rfl rfl (hb hby d10_1)
 refine Rch.st (fun _ k => st79 _ k) ?_
 show Rch p e below T79 (mkF m 4 #[vR sb, vI mm, U] [(.ref vb)]) _
 refine Rch.st (fun _ k => own_alen X79 hx hZ e79 f4 rfl rfl (hb hby d10_4) k) ?_
 show Rch p e below T79 (mkF m 5 #[vR sb, vI mm, U] [(.int 16)]) _
 refine w_aloadN (pc' := 6) X79 hx hby d10_5 rfl rfl rfl ?_
 obtain ⟨T80, X80, e80, st80⟩ := getF X79 hx hZ hown (host := "") (Or.inl (wi hw 274 rfl)) Via.refl e79 f2 (g := (mkF m 6 #[vR sb, vI mm, U] [(.ref sb), (.int 16)])) rfl rfl (hb hby d10_6)
 refine Rch.st (fun _ k => st80 _ k) ?_
 show Rch p e below T80 (mkF m 9 #[vR sb, vI mm, U] [(.int 0), (.int 16)]) _
 refine w_ishr (pc' := 10) X80 hx hby d10_9 rfl ?_
 have r81 : ((16 : Int32) >>> ((0 : Int32) &&& 31)) = (16 : Int32) := by decide
 rw [r81]
 show Rch p e below T80 (mkF m 10 #[vR sb, vI mm, U] [(.int 16)]) _
 refine w_istoreN (pc' := 11) (l' := #[vR sb, vI mm, vI 16]) X80 hx hby d10_10 rfl rfl ?_
 refine w_iloadN (pc' := 12) X80 hx hby d10_11 rfl rfl ?_
 refine w_iloadN (pc' := 13) X80 hx hby d10_12 rfl rfl ?_
 refine w_isub (pc' := 14) X80 hx hby d10_13 rfl ?_
 refine w_ifYes (pc' := 38) X80 hx hby d10_14 (XT.i0_le_t (hcap)) (by decide) ?_
 exact Rch.ret0 X80 hx Bd.returns (hb hby d10_38) (by rw [e80]; exact ⟨rfl, N0, rfl⟩) (by decide) (by decide)

abbrev c11 : ByteArray := jdk_68_method_71_code
theorem d11_0 : decode c11 0 = .ok (.getstatic 18, 3) := by decide +kernel
theorem d11_3 : decode c11 3 = .ok (.ifCond .eq 18, 3) := by decide +kernel
theorem d11_6 : decode c11 6 = .ok (.aload_n 0, 1) := by decide +kernel
theorem d11_7 : decode c11 7 = .ok (.getfield 22, 3) := by decide +kernel
theorem d11_10 : decode c11 10 = .ok (.aload_n 1, 1) := by decide +kernel
theorem d11_11 : decode c11 11 = .ok (.invokevirtual 40, 3) := by decide +kernel
theorem d11_14 : decode c11 14 = .ok (.if_icmp .eq 7, 3) := by decide +kernel
theorem d11_21 : decode c11 21 = .ok (.return_, 1) := by decide +kernel
theorem ef_rm_inf (m : MethodId) (G1 : Int32) (sb : Addr) (vb : Addr) (kv : ClassId) (kk : Int32) (pre : List Value) (sa : Addr) (bb : Addr) (kb : ClassId) (nn : Int32) (vs : List Value) (dd : Value)  : entryFrame m #[(.ref sb), (.ref sa)] 2 = mkF m 0 #[vR sb, vR sa] [] := by  first | (simp [entryFrame, mkF, argsToLocals, Value.category, maxLocals]; done) | rfl
def Q_rm_inf (Z : State) (G1 : Int32) (sb : Addr) (vb : Addr) (kv : ClassId) (kk : Int32) (pre : List Value) (sa : Addr) (bb : Addr) (kb : ClassId) (nn : Int32) (vs : List Value) (dd : Value) (h0 : Heap) (n0 : Nat) (v : Option Value) (h : Heap) (L : List Loc) : Prop := (v = none) ∧ (Fr n0 L) ∧ (h = h0)
set_option maxRecDepth 65536 in
set_option maxHeartbeats 40000000 in
theorem rm_inf (l : Launch) (Z : State) (a0 : Array Value) (hw : ∀ d ∈ tables_1, d.before a0 Z = true) (ws : List Jvm.Cond) (G1 : Int32) (sb : Addr) (vb : Addr) (kv : ClassId) (kk : Int32) (pre : List Value) (sa : Addr) (bb : Addr) (kb : ClassId) (nn : Int32) (vs : List Value) (dd : Value) (h0 : Heap) (n0 : Nat) (Z0 : n0 ≤ h0.size) (O2 : Sta Z Z.heap "java/lang/String" "COMPACT_STRINGS" "Z" (.int G1)) (P5 : ¬ G1 = 0) (f2 : Exa Z h0 sb "java/lang/StringBuilder") (f3 : Fld Z h0 sb "java/lang/AbstractStringBuilder" "value" "[B" (.ref vb)) (f4 : Fld Z h0 sb "java/lang/AbstractStringBuilder" "coder" "B" (.int (0 : Int32))) (f5 : Fld Z h0 sb "java/lang/AbstractStringBuilder" "count" "I" (.int kk)) (f6 : Arv Z h0 vb kv .byte (16 : Int32) pre (Value.int (0 : Int32))) (f7 : Exa Z h0 sa "java/lang/String") (f8 : Fld Z h0 sa "java/lang/String" "coder" "B" (.int (0 : Int32))) (f9 : Fld Z h0 sa "java/lang/String" "value" "[B" (.ref bb)) (f10 : Arv Z h0 bb kb .byte nn vs dd) (Old0 : OldL Z n0 h0) :
    MetN l Z y_13 c11 2 none ws (Rm 1 0 0 13) #[(.ref sb), (.ref sa)] h0 (Q_rm_inf Z G1 sb vb kv kk pre sa bb kb nn vs dd h0 n0) := by
 refine MetFree.of_bodySF (plainFor_of_name pn_java_lang_AbstractStringBuilder) hisR ?_
 intro p e s m args below meth c s₁ Bd hml0 hP hK
 obtain ⟨rfl, hZ, hh⟩ := hP
 have hx := Bd.exec
 have hby := Bd.bytes
 have hml : c.maxLocals = 2 := hml0
 have hown : s.vm.findClass "java/lang/AbstractStringBuilder" = some m.cls := findClass_of_methodNamed Bd.named
 have X0 : Stand p l e (Rm 1 0 0 13) s m #[(.ref sb), (.ref sa)] below meth c s₁ [] 0 0 := Stand.of_body Bd
 have e0 : s₁.heap = h0 := by rw [← hh, Bd.state]; rfl
 have N0 := Fr.nil n0
 have K00 : Keep h0 h0 [] := Keep.refl _ _
 show Rch p e below s₁ (entryFrame m #[(.ref sb), (.ref sa)] 2) (FinP s (Q_rm_inf Z G1 sb vb kv kk pre sa bb kb nn vs dd h0 n0) 0 0)
 refine Rch.cast (ef_rm_inf m G1 sb vb kv kk pre sa bb kb nn vs dd) ?_
 show Rch p e below s₁ (mkF m 0 #[vR sb, vR sa] []) _
 obtain ⟨T82, X82, e82, st82⟩ := getS X0 hx hZ hown (host := "") (wi hw 271 rfl) Via.refl e0 (O2.ext Old0.2) (g := (mkF m 0 #[vR sb, vR sa] [])) rfl (hb hby d11_0)
 refine Rch.st (fun _ k => st82 _ k) ?_
 show Rch p e below T82 (mkF m 3 #[vR sb, vR sa] [(.int G1)]) _
 refine w_ifNo (pc' := 6) X82 hx hby d11_3 (XT.i0_eq_f (P5)) rfl ?_
 refine w_aloadN (pc' := 7) X82 hx hby d11_6 rfl rfl rfl ?_
 obtain ⟨T83, X83, e83, st83⟩ := getF X82 hx hZ hown (host := "") (Or.inl (wi hw 274 rfl)) Via.refl e82 f4 (g := (mkF m 7 #[vR sb, vR sa] [(.ref sb)])) rfl rfl (hb hby d11_7)
 refine Rch.st (fun _ k => st83 _ k) ?_
 show Rch p e below T83 (mkF m 10 #[vR sb, vR sa] [(.int 0)]) _
 refine w_aloadN (pc' := 11) X83 hx hby d11_10 rfl rfl rfl ?_
 obtain ⟨cq84, kq84, q84a, q84b, q84c⟩ := isOf hZ e83 f7
 obtain ⟨_, _, ⟨T84, L84, k84, n84⟩, -, X84, ⟨Lc84, hQ84, l84, y84, z84⟩, st84⟩ := X83.virtualBack hx (y := y_2) (z := y_2) hown (mvT hZ (wi hw 313 rfl)) (mvT hZ (wi hw 292 rfl)) (notFace_of_selects (args := #[]) (mvT hZ (wi hw 294 rfl))) (mvT hZ (wi hw 294 rfl)) (mvT hZ (wi hw 293 rfl)) (by decide) (backOf (W := 1) (rm_coder l Z a0 hw [] G1 sa 0 h0 n0 Z0 (O2) (P5) f8 (Or.inl rfl) Old0) hZ (wi hw 295 rfl) (wi hw 7 rfl) (by decide) (by decide)) q84a q84c (g := (mkF m 11 #[vR sb, vR sa] [(.ref sa), (.int 0)])) rfl (by rw [hml]; rfl) (Steps.refl _) (argsL := []) (rest := [(.int 0)]) (lenOf pd___B rfl) rfl (by show 2 * 0 + _ ≤ _; exact Nat.le_of_eq rfl) (hb hby d11_11) (fun _ _ => ⟨rfl, e83, (by decide : 0 + 0 ≤ _), (by decide : 0 + 0 ≤ _)⟩)
 dsimp only [Pt.U, Pt.locs, Pt.cells, Pt.slots] at X84 l84 y84 z84 st84 hQ84
 subst l84 y84 z84
 obtain ⟨rfl, NQ84, K84⟩ := hQ84
 have N85 := Fr.app N0 NQ84
 refine Rch.st (fun _ k => st84.trans k) ?_
 show Rch p e below T84 (mkF m 14 #[vR sb, vR sa] [(.int 0), (.int 0)]) _
 refine w_icmpYes (pc' := 21) X84 hx hby d11_14 (XT.ii_eq_t (rfl)) (by decide) ?_
 exact Rch.ret0 X84 hx Bd.returns (hb hby d11_21) (by rw [K84]; exact ⟨rfl, N85, rfl⟩) (by decide) (by decide)

abbrev c12 : ByteArray := jdk_42_method_147_code
theorem d12_0 : decode c12 0 = .ok (.aload_n 0, 1) := by decide +kernel
theorem d12_1 : decode c12 1 = .ok (.invokevirtual 335, 3) := by decide +kernel
theorem d12_4 : decode c12 4 = .ok (.iload_n 3, 1) := by decide +kernel
theorem d12_5 : decode c12 5 = .ok (.if_icmp .ne 23, 3) := by decide +kernel
theorem d12_8 : decode c12 8 = .ok (.aload_n 0, 1) := by decide +kernel
theorem d12_9 : decode c12 9 = .ok (.getfield 9, 3) := by decide +kernel
theorem d12_12 : decode c12 12 = .ok (.iconst 0, 1) := by decide +kernel
theorem d12_13 : decode c12 13 = .ok (.aload_n 1, 1) := by decide +kernel
theorem d12_14 : decode c12 14 = .ok (.iload_n 2, 1) := by decide +kernel
theorem d12_15 : decode c12 15 = .ok (.iload_n 3, 1) := by decide +kernel
theorem d12_16 : decode c12 16 = .ok (.ishl, 1) := by decide +kernel
theorem d12_17 : decode c12 17 = .ok (.aload_n 0, 1) := by decide +kernel
theorem d12_18 : decode c12 18 = .ok (.getfield 9, 3) := by decide +kernel
theorem d12_21 : decode c12 21 = .ok (.arraylength, 1) := by decide +kernel
theorem d12_22 : decode c12 22 = .ok (.invokestatic 212, 3) := by decide +kernel
theorem d12_25 : decode c12 25 = .ok (.goto 18, 3) := by decide +kernel
theorem d12_43 : decode c12 43 = .ok (.return_, 1) := by decide +kernel
theorem ef_rm_gb (m : MethodId) (G1 : Int32) (vb : Addr) (kv : ClassId) (kk : Int32) (pre : List Value) (sa : Addr) (bb : Addr) (kb : ClassId) (nn : Int32) (vs : List Value) (dd : Value)  : entryFrame m #[(.ref sa), (.ref vb), (.int kk), (.int (0 : Int32))] 4 = mkF m 0 #[vR sa, vR vb, vI kk, vI 0] [] := by  first | (simp [entryFrame, mkF, argsToLocals, Value.category, maxLocals]; done) | rfl
def Q_rm_gb (Z : State) (G1 : Int32) (vb : Addr) (kv : ClassId) (kk : Int32) (pre : List Value) (sa : Addr) (bb : Addr) (kb : ClassId) (nn : Int32) (vs : List Value) (dd : Value) (h0 : Heap) (n0 : Nat) (v : Option Value) (h : Heap) (L : List Loc) : Prop := (v = none) ∧ (Fr n0 L) ∧ (Keep h0 h [vb]) ∧ (Arv Z h vb kv .byte (16 : Int32) (pre ++ own_take vs dd nn.toNatClampNeg) (Value.int (0 : Int32)))
set_option maxRecDepth 65536 in
set_option maxHeartbeats 40000000 in
theorem rm_gb (l : Launch) (Z : State) (a0 : Array Value) (hw : ∀ d ∈ tables_1, d.before a0 Z = true) (ws : List Jvm.Cond) (G1 : Int32) (vb : Addr) (kv : ClassId) (kk : Int32) (pre : List Value) (sa : Addr) (bb : Addr) (kb : ClassId) (nn : Int32) (vs : List Value) (dd : Value) (h0 : Heap) (n0 : Nat) (Z0 : n0 ≤ h0.size) (O2 : Sta Z Z.heap "java/lang/String" "COMPACT_STRINGS" "Z" (.int G1)) (P5 : ¬ G1 = 0) (f2 : Arv Z h0 vb kv .byte (16 : Int32) pre (Value.int (0 : Int32))) (f3 : Exa Z h0 sa "java/lang/String") (f4 : Fld Z h0 sa "java/lang/String" "coder" "B" (.int (0 : Int32))) (f5 : Fld Z h0 sa "java/lang/String" "value" "[B" (.ref bb)) (f6 : Arv Z h0 bb kb .byte nn vs dd) (hk0 : ¬ kk < 0) (hn0 : ¬ nn < 0) (hkl : kk.toNatClampNeg = pre.length) (h16 : pre.length + nn.toNatClampNeg ≤ 16) (gb : n0 ≤ vb) (q1 : bb ≠ vb) (q5 : sa ≠ vb) (Old0 : OldL Z n0 h0) :
    MetN l Z y_14 c12 4 none ws (Rm 1 0 0 18) #[(.ref sa), (.ref vb), (.int kk), (.int (0 : Int32))] h0 (Q_rm_gb Z G1 vb kv kk pre sa bb kb nn vs dd h0 n0) := by
 refine MetFree.of_bodySF (plainFor_of_name pn_java_lang_String) hisR ?_
 intro p e s m args below meth c s₁ Bd hml0 hP hK
 obtain ⟨rfl, hZ, hh⟩ := hP
 have hx := Bd.exec
 have hby := Bd.bytes
 have hml : c.maxLocals = 4 := hml0
 have hown : s.vm.findClass "java/lang/String" = some m.cls := findClass_of_methodNamed Bd.named
 have X0 : Stand p l e (Rm 1 0 0 18) s m #[(.ref sa), (.ref vb), (.int kk), (.int (0 : Int32))] below meth c s₁ [] 0 0 := Stand.of_body Bd
 have e0 : s₁.heap = h0 := by rw [← hh, Bd.state]; rfl
 have N0 := Fr.nil n0
 have K00 : Keep h0 h0 [vb] := Keep.refl _ _
 show Rch p e below s₁ (entryFrame m #[(.ref sa), (.ref vb), (.int kk), (.int (0 : Int32))] 4) (FinP s (Q_rm_gb Z G1 vb kv kk pre sa bb kb nn vs dd h0 n0) 0 0)
 refine Rch.cast (ef_rm_gb m G1 vb kv kk pre sa bb kb nn vs dd) ?_
 show Rch p e below s₁ (mkF m 0 #[vR sa, vR vb, vI kk, vI 0] []) _
 refine w_aloadN (pc' := 1) X0 hx hby d12_0 rfl rfl rfl ?_
 obtain ⟨cq86, kq86, q86a, q86b, q86c⟩ := isOf hZ e0 f3
 obtain ⟨_, _, ⟨T86, L86, k86, n86⟩, -, X86, ⟨Lc86, hQ86, l86, y86, z86⟩, st86⟩ := X0.virtualBack hx (y := y_2) (z := y_2) hown (mvT hZ (wi hw 291 rfl)) (mvT hZ (wi hw 292 rfl)) (notFace_of_selects (args := #[]) (mvT hZ (wi hw 294 rfl))) (mvT hZ (wi hw 294 rfl)) (mvT hZ (wi hw 293 rfl)) (by decide) (backOf (W := 0) (rm_coder l Z a0 hw [] G1 sa 0 h0 n0 Z0 (O2) (P5) f4 (Or.inl rfl) Old0) hZ (wi hw 295 rfl) (wi hw 7 rfl) (by decide) (by decide)) q86a q86c (g := (mkF m 1 #[vR sa, vR vb, vI kk, vI 0] [(.ref sa)])) rfl (by rw [hml]; rfl) (Steps.refl _) (argsL := []) (rest := []) (lenOf pd___B rfl) rfl (by show 2 * 0 + _ ≤ _; exact Nat.le_of_eq rfl) (hb hby d12_1) (fun _ _ => ⟨rfl, e0, (by decide : 0 + 0 ≤ _), (by decide : 0 + 0 ≤ _)⟩)
 dsimp only [Pt.U, Pt.locs, Pt.cells, Pt.slots] at X86 l86 y86 z86 st86 hQ86
 subst l86 y86 z86
 obtain ⟨rfl, NQ86, K86⟩ := hQ86
 have N87 := Fr.app N0 NQ86
 refine Rch.st (fun _ k => st86.trans k) ?_
 show Rch p e below T86 (mkF m 4 #[vR sa, vR vb, vI kk, vI 0] [(.int 0)]) _
 refine w_iloadN (pc' := 5) X86 hx hby d12_4 rfl rfl ?_
 refine w_icmpNo (pc' := 8) X86 hx hby d12_5 (XT.ii_ne_f (rfl)) rfl ?_
 refine w_aloadN (pc' := 9) X86 hx hby d12_8 rfl rfl rfl ?_
 obtain ⟨T88, X88, e88, st88⟩ := getF X86 hx hZ hown (host := "") (Or.inl (wi hw 32 rfl)) Via.refl K86 f5 (g := (mkF m 9 #[vR sa, vR vb, vI kk, vI 0] [(.ref sa)])) rfl rfl (hb hby d12_9)
 refine Rch.st (fun _ k => st88 _ k) ?_
 show Rch p e below T88 (mkF m 12 #[vR sa, vR vb, vI kk, vI 0] [(.ref bb)]) _
 refine w_iconst (pc' := 13) (v := 0) X88 hx hby d12_12 rfl rfl ?_
 refine w_aloadN (pc' := 14) X88 hx hby d12_13 rfl rfl rfl ?_
 refine w_iloadN (pc' := 15) X88 hx hby d12_14 rfl rfl ?_
 refine w_iloadN (pc' := 16) X88 hx hby d12_15 rfl rfl ?_
 refine w_ishl (pc' := 17) X88 hx hby d12_16 rfl ?_
 have r89 : (kk <<< ((0 : Int32) &&& 31)) = kk := own_sl0 kk
 rw [r89]
 show Rch p e below T88 (mkF m 17 #[vR sa, vR vb, vI kk, vI 0] [(.int kk), (.ref vb), (.int 0), (.ref bb)]) _
 refine w_aloadN (pc' := 18) X88 hx hby d12_17 rfl rfl rfl ?_
 obtain ⟨T90, X90, e90, st90⟩ := getF X88 hx hZ hown (host := "") (Or.inl (wi hw 32 rfl)) Via.refl e88 f5 (g := (mkF m 18 #[vR sa, vR vb, vI kk, vI 0] [(.ref sa), (.int kk), (.ref vb), (.int 0), (.ref bb)])) rfl rfl (hb hby d12_18)
 refine Rch.st (fun _ k => st90 _ k) ?_
 show Rch p e below T90 (mkF m 21 #[vR sa, vR vb, vI kk, vI 0] [(.ref bb), (.int kk), (.ref vb), (.int 0), (.ref bb)]) _
 refine Rch.st (fun _ k => own_alen X90 hx hZ e90 f6 rfl rfl (hb hby d12_21) k) ?_
 show Rch p e below T90 (mkF m 22 #[vR sa, vR vb, vI kk, vI 0] [(.int nn), (.int kk), (.ref vb), (.int 0), (.ref bb)]) _
 have f91 : Arv Z h0 vb kv .byte (16 : Int32) (pre ++ List.replicate nn.toNatClampNeg (Value.int (0 : Int32))) (Value.int (0 : Int32)) := f2.pad (pad_rep pre (Value.int (0 : Int32)) nn.toNatClampNeg)
 obtain ⟨T92, h92, L92, X92, e92, N92, K92, V92, st92⟩ := cpA (us := (own_take vs dd nn.toNatClampNeg)) X90 hx hZ hown (wi hw 319 rfl) (wi hw 322 rfl) (wi hw 320 rfl) (wi hw 321 rfl) e90 f6 f91 (Or.inl ⟨rfl, rfl⟩) (by decide) (hk0) (hn0) (by rw [own_z0, Nat.zero_add]; exact Nat.le_refl _) (by rw [own_16, hkl]; exact h16) (own_take_hus _ _ _) (by rw [hkl]; simp) N87 gb (g := (mkF m 22 #[vR sa, vR vb, vI kk, vI 0] [(.int nn), (.int kk), (.ref vb), (.int 0), (.ref bb)])) rfl (by rw [hml]; rfl) rfl (hb hby d12_22) (by decide) (W := 0) (by show 2 * 0 + _ ≤ _; exact Nat.le_of_eq rfl) (by decide)
 have Kp99 : Keep h0 h92 [vb] := K00.trans K92 (allS (Or.inl (List.mem_of_getElem? (i := 0) rfl)) all0)
 have f100 : Arv Z h92 vb kv .byte (16 : Int32) (pre ++ own_take vs dd nn.toNatClampNeg) (Value.int (0 : Int32)) := by have z := V92; rw [show (pre ++ List.replicate nn.toNatClampNeg (Value.int (0 : Int32))).take kk.toNatClampNeg ++ (own_take vs dd nn.toNatClampNeg) ++ (pre ++ List.replicate nn.toNatClampNeg (Value.int (0 : Int32))).drop (kk.toNatClampNeg + nn.toNatClampNeg) = (pre ++ own_take vs dd nn.toNatClampNeg) from by rw [hkl]; simp] at z; exact z
 refine Rch.st (fun _ k => st92 _ k) ?_
 show Rch p e below T92 (mkF m 25 #[vR sa, vR vb, vI kk, vI 0] []) _
 refine w_goto (pc' := 43) X92 hx hby d12_25 (by decide) ?_
 exact Rch.ret0 X92 hx Bd.returns (hb hby d12_43) (by rw [e92]; exact ⟨rfl, N92, Kp99, f100⟩) (by decide) (by decide)

abbrev c13 : ByteArray := jdk_68_method_73_code
theorem d13_0 : decode c13 0 = .ok (.aload_n 0, 1) := by decide +kernel
theorem d13_1 : decode c13 1 = .ok (.aload_n 2, 1) := by decide +kernel
theorem d13_2 : decode c13 2 = .ok (.invokevirtual 397, 3) := by decide +kernel
theorem d13_5 : decode c13 5 = .ok (.aload_n 2, 1) := by decide +kernel
theorem d13_6 : decode c13 6 = .ok (.aload_n 0, 1) := by decide +kernel
theorem d13_7 : decode c13 7 = .ok (.getfield 15, 3) := by decide +kernel
theorem d13_10 : decode c13 10 = .ok (.iload_n 1, 1) := by decide +kernel
theorem d13_11 : decode c13 11 = .ok (.aload_n 0, 1) := by decide +kernel
theorem d13_12 : decode c13 12 = .ok (.getfield 22, 3) := by decide +kernel
theorem d13_15 : decode c13 15 = .ok (.invokevirtual 399, 3) := by decide +kernel
theorem d13_18 : decode c13 18 = .ok (.return_, 1) := by decide +kernel
theorem ef_rm_psa (m : MethodId) (G1 : Int32) (sb : Addr) (vb : Addr) (kv : ClassId) (kk : Int32) (pre : List Value) (sa : Addr) (bb : Addr) (kb : ClassId) (nn : Int32) (vs : List Value) (dd : Value)  : entryFrame m #[(.ref sb), (.int kk), (.ref sa)] 3 = mkF m 0 #[vR sb, vI kk, vR sa] [] := by  first | (simp [entryFrame, mkF, argsToLocals, Value.category, maxLocals]; done) | rfl
def Q_rm_psa (Z : State) (G1 : Int32) (sb : Addr) (vb : Addr) (kv : ClassId) (kk : Int32) (pre : List Value) (sa : Addr) (bb : Addr) (kb : ClassId) (nn : Int32) (vs : List Value) (dd : Value) (h0 : Heap) (n0 : Nat) (v : Option Value) (h : Heap) (L : List Loc) : Prop := (v = none) ∧ (Fr n0 L) ∧ (Keep h0 h [vb]) ∧ (Arv Z h vb kv .byte (16 : Int32) (pre ++ own_take vs dd nn.toNatClampNeg) (Value.int (0 : Int32)))
theorem pd__Ljava_lang_String__V : parseMethodDescriptor "(Ljava/lang/String;)V" = some ⟨[(.object "java/lang/String")], none⟩ := by decide +kernel
theorem pd___BIB_V : parseMethodDescriptor "([BIB)V" = some ⟨[(.array .byte), .int, .byte], none⟩ := by decide +kernel
set_option maxRecDepth 65536 in
set_option maxHeartbeats 40000000 in
theorem rm_psa (l : Launch) (Z : State) (a0 : Array Value) (hw : ∀ d ∈ tables_1, d.before a0 Z = true) (ws : List Jvm.Cond) (G1 : Int32) (sb : Addr) (vb : Addr) (kv : ClassId) (kk : Int32) (pre : List Value) (sa : Addr) (bb : Addr) (kb : ClassId) (nn : Int32) (vs : List Value) (dd : Value) (h0 : Heap) (n0 : Nat) (Z0 : n0 ≤ h0.size) (O2 : Sta Z Z.heap "java/lang/String" "COMPACT_STRINGS" "Z" (.int G1)) (P5 : ¬ G1 = 0) (f2 : Exa Z h0 sb "java/lang/StringBuilder") (f3 : Fld Z h0 sb "java/lang/AbstractStringBuilder" "value" "[B" (.ref vb)) (f4 : Fld Z h0 sb "java/lang/AbstractStringBuilder" "coder" "B" (.int (0 : Int32))) (f5 : Fld Z h0 sb "java/lang/AbstractStringBuilder" "count" "I" (.int kk)) (f6 : Arv Z h0 vb kv .byte (16 : Int32) pre (Value.int (0 : Int32))) (f7 : Exa Z h0 sa "java/lang/String") (f8 : Fld Z h0 sa "java/lang/String" "coder" "B" (.int (0 : Int32))) (f9 : Fld Z h0 sa "java/lang/String" "value" "[B" (.ref bb)) (f10 : Arv Z h0 bb kb .byte nn vs dd) (hk0 : ¬ kk < 0) (hn0 : ¬ nn < 0) (hkl : kk.toNatClampNeg = pre.length) (h16 : pre.length + nn.toNatClampNeg ≤ 16) (gb : n0 ≤ vb) (q1 : bb ≠ vb) (q2 : sa ≠ sb) (q3 : bb ≠ sb) (q4 : vb ≠ sb) (q5 : sa ≠ vb) (Old0 : OldL Z n0 h0) :
    MetN l Z y_15 c13 3 none ws (Rm 2 0 0 33) #[(.ref sb), (.int kk), (.ref sa)] h0 (Q_rm_psa Z G1 sb vb kv kk pre sa bb kb nn vs dd h0 n0) := by
 refine MetFree.of_bodySF (plainFor_of_name pn_java_lang_AbstractStringBuilder) hisR ?_
 intro p e s m args below meth c s₁ Bd hml0 hP hK
 obtain ⟨rfl, hZ, hh⟩ := hP
 have hx := Bd.exec
 have hby := Bd.bytes
 have hml : c.maxLocals = 3 := hml0
 have hown : s.vm.findClass "java/lang/AbstractStringBuilder" = some m.cls := findClass_of_methodNamed Bd.named
 have X0 : Stand p l e (Rm 2 0 0 33) s m #[(.ref sb), (.int kk), (.ref sa)] below meth c s₁ [] 0 0 := Stand.of_body Bd
 have e0 : s₁.heap = h0 := by rw [← hh, Bd.state]; rfl
 have N0 := Fr.nil n0
 have K00 : Keep h0 h0 [vb] := Keep.refl _ _
 show Rch p e below s₁ (entryFrame m #[(.ref sb), (.int kk), (.ref sa)] 3) (FinP s (Q_rm_psa Z G1 sb vb kv kk pre sa bb kb nn vs dd h0 n0) 0 0)
 refine Rch.cast (ef_rm_psa m G1 sb vb kv kk pre sa bb kb nn vs dd) ?_
 show Rch p e below s₁ (mkF m 0 #[vR sb, vI kk, vR sa] []) _
 refine w_aloadN (pc' := 1) X0 hx hby d13_0 rfl rfl rfl ?_
 refine w_aloadN (pc' := 2) X0 hx hby d13_1 rfl rfl rfl ?_
 obtain ⟨cq101, q101a, q101b⟩ := f2.cell
 obtain ⟨_, _, ⟨T101, L101, k101, n101⟩, -, X101, ⟨Lc101, hQ101, l101, y101, z101⟩, st101⟩ := X0.privateBack hx (y := y_13) hown (mvT hZ (wi hw 308 rfl)) (mvT hZ (wi hw 309 rfl)) (own_selQ (mvT hZ (wi hw 311 rfl)) (Cond.privateMethod_at (mvP hZ (wi hw 310 rfl) (args := #[]))) (mvT hZ (wi hw 309 rfl)) (by decide)) (Cond.privateMethod_at (mvP hZ (wi hw 310 rfl) (args := #[]))) (mvT hZ (wi hw 312 rfl)) (by decide) (backOf (W := 0) (rm_inf l Z a0 hw [] G1 sb vb kv kk pre sa bb kb nn vs dd h0 n0 Z0 (O2) (P5) f2 f3 f4 f5 f6 f7 f8 f9 f10 Old0) hZ (wi hw 312 rfl) (wi hw 268 rfl) (by decide) (by decide)) (g := (mkF m 2 #[vR sb, vI kk, vR sa] [(.ref sa), (.ref sb)])) rfl (by rw [hml]; rfl) (Steps.refl _) (a := sb) (by rw [e0]; exact q101a) q101b (argsL := [(.ref sa)]) (rest := []) (lenOf pd__Ljava_lang_String__V rfl) rfl (by show 2 * 0 + _ ≤ _; exact Nat.le_of_eq rfl) (hb hby d13_2) (fun _ _ => ⟨rfl, e0, (by decide : 0 + 0 ≤ _), (by decide : 0 + 0 ≤ _)⟩)
 dsimp only [Pt.U, Pt.locs, Pt.cells, Pt.slots] at X101 l101 y101 z101 st101 hQ101
 subst l101 y101 z101
 obtain ⟨rfl, NQ101, K101⟩ := hQ101
 have N102 := Fr.app N0 NQ101
 refine Rch.st (fun _ k => st101.trans k) ?_
 show Rch p e below T101 (mkF m 5 #[vR sb, vI kk, vR sa] []) _
 refine w_aloadN (pc' := 6) X101 hx hby d13_5 rfl rfl rfl ?_
 refine w_aloadN (pc' := 7) X101 hx hby d13_6 rfl rfl rfl ?_
 obtain ⟨T103, X103, e103, st103⟩ := getF X101 hx hZ hown (host := "") (Or.inl (wi hw 272 rfl)) Via.refl K101 f3 (g := (mkF m 7 #[vR sb, vI kk, vR sa] [(.ref sb), (.ref sa)])) rfl rfl (hb hby d13_7)
 refine Rch.st (fun _ k => st103 _ k) ?_
 show Rch p e below T103 (mkF m 10 #[vR sb, vI kk, vR sa] [(.ref vb), (.ref sa)]) _
 refine w_iloadN (pc' := 11) X103 hx hby d13_10 rfl rfl ?_
 refine w_aloadN (pc' := 12) X103 hx hby d13_11 rfl rfl rfl ?_
 obtain ⟨T104, X104, e104, st104⟩ := getF X103 hx hZ hown (host := "") (Or.inl (wi hw 274 rfl)) Via.refl e103 f4 (g := (mkF m 12 #[vR sb, vI kk, vR sa] [(.ref sb), (.int kk), (.ref vb), (.ref sa)])) rfl rfl (hb hby d13_12)
 refine Rch.st (fun _ k => st104 _ k) ?_
 show Rch p e below T104 (mkF m 15 #[vR sb, vI kk, vR sa] [(.int 0), (.int kk), (.ref vb), (.ref sa)]) _
 obtain ⟨cq105, kq105, q105a, q105b, q105c⟩ := isOf hZ e104 f7
 obtain ⟨_, _, ⟨T105, L105, k105, n105⟩, -, X105, ⟨Lc105, hQ105, l105, y105, z105⟩, st105⟩ := X104.virtualBack hx (y := y_14) (z := y_14) hown (mvT hZ (wi hw 314 rfl)) (mvT hZ (wi hw 315 rfl)) (notFace_of_selects (args := #[]) (mvT hZ (wi hw 317 rfl))) (mvT hZ (wi hw 317 rfl)) (mvT hZ (wi hw 316 rfl)) (by decide) (backOf (W := 0) (rm_gb l Z a0 hw [] G1 vb kv kk pre sa bb kb nn vs dd h0 n0 Z0 (O2) (P5) f6 f7 f8 f9 f10 (hk0) (hn0) (hkl) (h16) (gb) (q1) (q5) Old0) hZ (wi hw 318 rfl) (wi hw 7 rfl) (by decide) (by decide)) q105a q105c (g := (mkF m 15 #[vR sb, vI kk, vR sa] [(.int 0), (.int kk), (.ref vb), (.ref sa)])) rfl (by rw [hml]; rfl) (Steps.refl _) (argsL := [(.ref vb), (.int kk), (.int 0)]) (rest := []) (lenOf pd___BIB_V rfl) rfl (by show 2 * 0 + _ ≤ _; exact Nat.le_of_eq rfl) (hb hby d13_15) (fun _ _ => ⟨rfl, e104, (by decide : 0 + 0 ≤ _), (by decide : 0 + 0 ≤ _)⟩)
 dsimp only [Pt.U, Pt.locs, Pt.cells, Pt.slots] at X105 l105 y105 z105 st105 hQ105
 subst l105 y105 z105
 obtain ⟨rfl, NQ105, K105, fq105_0⟩ := hQ105
 have N106 := Fr.app N102 NQ105
 have Kp116 : Keep h0 T105.heap [vb] := K00.trans K105 (allS (Or.inl (List.mem_of_getElem? (i := 0) rfl)) all0)
 refine Rch.st (fun _ k => st105.trans k) ?_
 show Rch p e below T105 (mkF m 18 #[vR sb, vI kk, vR sa] []) _
 exact Rch.ret0 X105 hx Bd.returns (hb hby d13_18) (by rw [(rfl : T105.heap = T105.heap)]; exact ⟨rfl, N106, Kp116, fq105_0⟩) (by decide) (by decide)

abbrev c14 : ByteArray := jdk_68_method_22_code
theorem d14_0 : decode c14 0 = .ok (.aload_n 1, 1) := by decide +kernel
theorem d14_1 : decode c14 1 = .ok (.ifnonnull 8, 3) := by decide +kernel
theorem d14_9 : decode c14 9 = .ok (.aload_n 1, 1) := by decide +kernel
theorem d14_10 : decode c14 10 = .ok (.invokevirtual 32, 3) := by decide +kernel
theorem d14_13 : decode c14 13 = .ok (.istore_n 2, 1) := by decide +kernel
theorem d14_14 : decode c14 14 = .ok (.aload_n 0, 1) := by decide +kernel
theorem d14_15 : decode c14 15 = .ok (.aload_n 0, 1) := by decide +kernel
theorem d14_16 : decode c14 16 = .ok (.getfield 79, 3) := by decide +kernel
theorem d14_19 : decode c14 19 = .ok (.iload_n 2, 1) := by decide +kernel
theorem d14_20 : decode c14 20 = .ok (.iadd, 1) := by decide +kernel
theorem d14_21 : decode c14 21 = .ok (.invokevirtual 100, 3) := by decide +kernel
theorem d14_24 : decode c14 24 = .ok (.aload_n 0, 1) := by decide +kernel
theorem d14_25 : decode c14 25 = .ok (.aload_n 0, 1) := by decide +kernel
theorem d14_26 : decode c14 26 = .ok (.getfield 79, 3) := by decide +kernel
theorem d14_29 : decode c14 29 = .ok (.aload_n 1, 1) := by decide +kernel
theorem d14_30 : decode c14 30 = .ok (.invokevirtual 208, 3) := by decide +kernel
theorem d14_33 : decode c14 33 = .ok (.aload_n 0, 1) := by decide +kernel
theorem d14_34 : decode c14 34 = .ok (.dup, 1) := by decide +kernel
theorem d14_35 : decode c14 35 = .ok (.getfield 79, 3) := by decide +kernel
theorem d14_38 : decode c14 38 = .ok (.iload_n 2, 1) := by decide +kernel
theorem d14_39 : decode c14 39 = .ok (.iadd, 1) := by decide +kernel
theorem d14_40 : decode c14 40 = .ok (.putfield 79, 3) := by decide +kernel
theorem d14_43 : decode c14 43 = .ok (.aload_n 0, 1) := by decide +kernel
theorem d14_44 : decode c14 44 = .ok (.areturn, 1) := by decide +kernel
theorem ef_rm_Aap (m : MethodId) (G1 : Int32) (sb : Addr) (vb : Addr) (kv : ClassId) (kk : Int32) (pre : List Value) (sa : Addr) (bb : Addr) (kb : ClassId) (nn : Int32) (vs : List Value) (dd : Value)  : entryFrame m #[(.ref sb), (.ref sa)] 3 = mkF m 0 #[vR sb, vR sa, U] [] := by  first | (simp [entryFrame, mkF, argsToLocals, Value.category, maxLocals]; done) | rfl
def Q_rm_Aap (Z : State) (G1 : Int32) (sb : Addr) (vb : Addr) (kv : ClassId) (kk : Int32) (pre : List Value) (sa : Addr) (bb : Addr) (kb : ClassId) (nn : Int32) (vs : List Value) (dd : Value) (h0 : Heap) (n0 : Nat) (v : Option Value) (h : Heap) (L : List Loc) : Prop := (v = some (.ref sb)) ∧ (Fr n0 L) ∧ (Keep h0 h [sb, vb]) ∧ (Fld Z h sb "java/lang/AbstractStringBuilder" "value" "[B" (.ref vb)) ∧ (Fld Z h sb "java/lang/AbstractStringBuilder" "coder" "B" (.int (0 : Int32))) ∧ (Fld Z h sb "java/lang/AbstractStringBuilder" "count" "I" (.int (kk + nn))) ∧ (Arv Z h vb kv .byte (16 : Int32) (pre ++ own_take vs dd nn.toNatClampNeg) (Value.int (0 : Int32)))
theorem pd___I : parseMethodDescriptor "()I" = some ⟨[], (some .int)⟩ := by decide +kernel
theorem pd__ILjava_lang_String__V : parseMethodDescriptor "(ILjava/lang/String;)V" = some ⟨[.int, (.object "java/lang/String")], none⟩ := by decide +kernel
set_option maxRecDepth 65536 in
set_option maxHeartbeats 40000000 in
theorem rm_Aap (l : Launch) (Z : State) (a0 : Array Value) (hw : ∀ d ∈ tables_1, d.before a0 Z = true) (ws : List Jvm.Cond) (G1 : Int32) (sb : Addr) (vb : Addr) (kv : ClassId) (kk : Int32) (pre : List Value) (sa : Addr) (bb : Addr) (kb : ClassId) (nn : Int32) (vs : List Value) (dd : Value) (h0 : Heap) (n0 : Nat) (Z0 : n0 ≤ h0.size) (O2 : Sta Z Z.heap "java/lang/String" "COMPACT_STRINGS" "Z" (.int G1)) (P5 : ¬ G1 = 0) (f2 : Exa Z h0 sb "java/lang/StringBuilder") (f3 : Fld Z h0 sb "java/lang/AbstractStringBuilder" "value" "[B" (.ref vb)) (f4 : Fld Z h0 sb "java/lang/AbstractStringBuilder" "coder" "B" (.int (0 : Int32))) (f5 : Fld Z h0 sb "java/lang/AbstractStringBuilder" "count" "I" (.int kk)) (f6 : Arv Z h0 vb kv .byte (16 : Int32) pre (Value.int (0 : Int32))) (f7 : Exa Z h0 sa "java/lang/String") (f8 : Fld Z h0 sa "java/lang/String" "coder" "B" (.int (0 : Int32))) (f9 : Fld Z h0 sa "java/lang/String" "value" "[B" (.ref bb)) (f10 : Arv Z h0 bb kb .byte nn vs dd) (hk0 : ¬ kk < 0) (hn0 : ¬ nn < 0) (hkl : kk.toNatClampNeg = pre.length) (h16 : pre.length + nn.toNatClampNeg ≤ 16) (hcap : ¬ (0 : Int32) < ((kk + nn) - (16 : Int32))) (gs : n0 ≤ sb) (gb : n0 ≤ vb) (q1 : bb ≠ vb) (q2 : sa ≠ sb) (q3 : bb ≠ sb) (q4 : vb ≠ sb) (q5 : sa ≠ vb) (Old0 : OldL Z n0 h0) :
    MetN l Z y_16 c14 3 (some (.object "java/lang/AbstractStringBuilder")) ws (Rm 3 0 0 47) #[(.ref sb), (.ref sa)] h0 (Q_rm_Aap Z G1 sb vb kv kk pre sa bb kb nn vs dd h0 n0) := by
 refine MetFree.of_bodySF (plainFor_of_name pn_java_lang_AbstractStringBuilder) hisR ?_
 intro p e s m args below meth c s₁ Bd hml0 hP hK
 obtain ⟨rfl, hZ, hh⟩ := hP
 have hx := Bd.exec
 have hby := Bd.bytes
 have hml : c.maxLocals = 3 := hml0
 have hown : s.vm.findClass "java/lang/AbstractStringBuilder" = some m.cls := findClass_of_methodNamed Bd.named
 have X0 : Stand p l e (Rm 3 0 0 47) s m #[(.ref sb), (.ref sa)] below meth c s₁ [] 0 0 := Stand.of_body Bd
 have e0 : s₁.heap = h0 := by rw [← hh, Bd.state]; rfl
 have N0 := Fr.nil n0
 have K00 : Keep h0 h0 [sb, vb] := Keep.refl _ _
 show Rch p e below s₁ (entryFrame m #[(.ref sb), (.ref sa)] 3) (FinP s (Q_rm_Aap Z G1 sb vb kv kk pre sa bb kb nn vs dd h0 n0) 0 0)
 refine Rch.cast (ef_rm_Aap m G1 sb vb kv kk pre sa bb kb nn vs dd) ?_
 show Rch p e below s₁ (mkF m 0 #[vR sb, vR sa, U] []) _
 refine w_aloadN (pc' := 1) X0 hx hby d14_0 rfl rfl rfl ?_
 refine w_nonnullYes (pc' := 9) X0 hx hby d14_1 rfl (fun q => nomatch q) (by decide) ?_
 refine w_aloadN (pc' := 10) X0 hx hby d14_9 rfl rfl rfl ?_
 obtain ⟨cq118, kq118, q118a, q118b, q118c⟩ := isOf hZ e0 f7
 obtain ⟨_, _, ⟨T118, L118, k118, n118⟩, -, X118, ⟨Lc118, hQ118, l118, y118, z118⟩, st118⟩ := X0.virtualBack hx (y := y_3) (z := y_3) hown (mvT hZ (wi hw 286 rfl)) (mvT hZ (wi hw 287 rfl)) (notFace_of_selects (args := #[]) (mvT hZ (wi hw 289 rfl))) (mvT hZ (wi hw 289 rfl)) (mvT hZ (wi hw 288 rfl)) (by decide) (backOf (W := 0) (rm_length l Z a0 hw [] G1 sa 0 bb kb nn vs dd h0 n0 Z0 (O2) (P5) f8 (Or.inl rfl) f9 f10 f7 Old0) hZ (wi hw 290 rfl) (wi hw 7 rfl) (by decide) (by decide)) q118a q118c (g := (mkF m 10 #[vR sb, vR sa, U] [(.ref sa)])) rfl (by rw [hml]; rfl) (Steps.refl _) (argsL := []) (rest := []) (lenOf pd___I rfl) rfl (by show 2 * 0 + _ ≤ _; exact Nat.le_of_eq rfl) (hb hby d14_10) (fun _ _ => ⟨rfl, e0, (by decide : 0 + 0 ≤ _), (by decide : 0 + 0 ≤ _)⟩)
 dsimp only [Pt.U, Pt.locs, Pt.cells, Pt.slots] at X118 l118 y118 z118 st118 hQ118
 subst l118 y118 z118
 obtain ⟨rfl, NQ118, K118⟩ := hQ118
 have N119 := Fr.app N0 NQ118
 refine Rch.st (fun _ k => st118.trans k) ?_
 show Rch p e below T118 (mkF m 13 #[vR sb, vR sa, U] [(.int (nn >>> ((0 : Int32) &&& 31)))]) _
 have r120 : (nn >>> ((0 : Int32) &&& 31)) = nn := own_sh0 nn
 rw [r120]
 show Rch p e below T118 (mkF m 13 #[vR sb, vR sa, U] [(.int nn)]) _
 refine w_istoreN (pc' := 14) (l' := #[vR sb, vR sa, vI nn]) X118 hx hby d14_13 rfl rfl ?_
 refine w_aloadN (pc' := 15) X118 hx hby d14_14 rfl rfl rfl ?_
 refine w_aloadN (pc' := 16) X118 hx hby d14_15 rfl rfl rfl ?_
 obtain ⟨T121, X121, e121, st121⟩ := getF X118 hx hZ hown (host := "") (Or.inl (wi hw 296 rfl)) Via.refl K118 f5 (g := (mkF m 16 #[vR sb, vR sa, vI nn] [(.ref sb), (.ref sb)])) rfl rfl (hb hby d14_16)
 refine Rch.st (fun _ k => st121 _ k) ?_
 show Rch p e below T121 (mkF m 19 #[vR sb, vR sa, vI nn] [(.int kk), (.ref sb)]) _
 refine w_iloadN (pc' := 20) X121 hx hby d14_19 rfl rfl ?_
 refine w_iadd (pc' := 21) X121 hx hby d14_20 rfl ?_
 obtain ⟨cq122, q122a, q122b⟩ := f2.cell
 obtain ⟨_, _, ⟨T122, L122, k122, n122⟩, -, X122, ⟨Lc122, hQ122, l122, y122, z122⟩, st122⟩ := X121.privateBack hx (y := y_12) hown (mvT hZ (wi hw 298 rfl)) (mvT hZ (wi hw 299 rfl)) (own_selQ (mvT hZ (wi hw 301 rfl)) (Cond.privateMethod_at (mvP hZ (wi hw 300 rfl) (args := #[]))) (mvT hZ (wi hw 299 rfl)) (by decide)) (Cond.privateMethod_at (mvP hZ (wi hw 300 rfl) (args := #[]))) (mvT hZ (wi hw 302 rfl)) (by decide) (backOf (W := 0) (rm_en l Z a0 hw [] sb vb kv kk pre (kk + nn) h0 n0 Z0 f2 f3 f4 f5 f6 (hcap)) hZ (wi hw 302 rfl) (wi hw 268 rfl) (by decide) (by decide)) (g := (mkF m 21 #[vR sb, vR sa, vI nn] [(.int (kk + nn)), (.ref sb)])) rfl (by rw [hml]; rfl) (Steps.refl _) (a := sb) (by rw [e121]; exact q122a) q122b (argsL := [(.int (kk + nn))]) (rest := []) (lenOf pd__I_V rfl) rfl (by show 2 * 0 + _ ≤ _; exact Nat.le_of_eq rfl) (hb hby d14_21) (fun _ _ => ⟨rfl, e121, (by decide : 0 + 0 ≤ _), (by decide : 0 + 0 ≤ _)⟩)
 dsimp only [Pt.U, Pt.locs, Pt.cells, Pt.slots] at X122 l122 y122 z122 st122 hQ122
 subst l122 y122 z122
 obtain ⟨rfl, NQ122, K122⟩ := hQ122
 have N123 := Fr.app N119 NQ122
 refine Rch.st (fun _ k => st122.trans k) ?_
 show Rch p e below T122 (mkF m 24 #[vR sb, vR sa, vI nn] []) _
 refine w_aloadN (pc' := 25) X122 hx hby d14_24 rfl rfl rfl ?_
 refine w_aloadN (pc' := 26) X122 hx hby d14_25 rfl rfl rfl ?_
 obtain ⟨T124, X124, e124, st124⟩ := getF X122 hx hZ hown (host := "") (Or.inl (wi hw 296 rfl)) Via.refl K122 f5 (g := (mkF m 26 #[vR sb, vR sa, vI nn] [(.ref sb), (.ref sb)])) rfl rfl (hb hby d14_26)
 refine Rch.st (fun _ k => st124 _ k) ?_
 show Rch p e below T124 (mkF m 29 #[vR sb, vR sa, vI nn] [(.int kk), (.ref sb)]) _
 refine w_aloadN (pc' := 30) X124 hx hby d14_29 rfl rfl rfl ?_
 obtain ⟨cq125, q125a, q125b⟩ := f2.cell
 obtain ⟨_, _, ⟨T125, L125, k125, n125⟩, -, X125, ⟨Lc125, hQ125, l125, y125, z125⟩, st125⟩ := X124.privateBack hx (y := y_15) hown (mvT hZ (wi hw 303 rfl)) (mvT hZ (wi hw 304 rfl)) (own_selQ (mvT hZ (wi hw 306 rfl)) (Cond.privateMethod_at (mvP hZ (wi hw 305 rfl) (args := #[]))) (mvT hZ (wi hw 304 rfl)) (by decide)) (Cond.privateMethod_at (mvP hZ (wi hw 305 rfl) (args := #[]))) (mvT hZ (wi hw 307 rfl)) (by decide) (backOf (W := 0) (rm_psa l Z a0 hw [] G1 sb vb kv kk pre sa bb kb nn vs dd h0 n0 Z0 (O2) (P5) f2 f3 f4 f5 f6 f7 f8 f9 f10 (hk0) (hn0) (hkl) (h16) (gb) (q1) (q2) (q3) (q4) (q5) Old0) hZ (wi hw 307 rfl) (wi hw 268 rfl) (by decide) (by decide)) (g := (mkF m 30 #[vR sb, vR sa, vI nn] [(.ref sa), (.int kk), (.ref sb)])) rfl (by rw [hml]; rfl) (Steps.refl _) (a := sb) (by rw [e124]; exact q125a) q125b (argsL := [(.int kk), (.ref sa)]) (rest := []) (lenOf pd__ILjava_lang_String__V rfl) rfl (by show 2 * 0 + _ ≤ _; exact Nat.le_of_eq rfl) (hb hby d14_30) (fun _ _ => ⟨rfl, e124, (by decide : 0 + 0 ≤ _), (by decide : 0 + 0 ≤ _)⟩)
 dsimp only [Pt.U, Pt.locs, Pt.cells, Pt.slots] at X125 l125 y125 z125 st125 hQ125
 subst l125 y125 z125
 obtain ⟨rfl, NQ125, K125, fq125_0⟩ := hQ125
 have N126 := Fr.app N123 NQ125
 have f127 := f2.keep K125
 have f128 := f3.keep K125 (ninS (Ne.symm q4) nin0)
 have f129 := f4.keep K125 (ninS (Ne.symm q4) nin0)
 have f130 := f5.keep K125 (ninS (Ne.symm q4) nin0)
 have Kp136 : Keep h0 T125.heap [sb, vb] := K00.trans K125 (allS (Or.inl (List.mem_of_getElem? (i := 1) rfl)) all0)
 refine Rch.st (fun _ k => st125.trans k) ?_
 show Rch p e below T125 (mkF m 33 #[vR sb, vR sa, vI nn] []) _
 refine w_aloadN (pc' := 34) X125 hx hby d14_33 rfl rfl rfl ?_
 refine w_dup (pc' := 35) X125 hx hby d14_34 rfl rfl ?_
 obtain ⟨T138, X138, e138, st138⟩ := getF X125 hx hZ hown (host := "") (Or.inl (wi hw 296 rfl)) Via.refl (rfl : T125.heap = T125.heap) f130 (g := (mkF m 35 #[vR sb, vR sa, vI nn] [(.ref sb), (.ref sb)])) rfl rfl (hb hby d14_35)
 refine Rch.st (fun _ k => st138 _ k) ?_
 show Rch p e below T138 (mkF m 38 #[vR sb, vR sa, vI nn] [(.int kk), (.ref sb)]) _
 refine w_iloadN (pc' := 39) X138 hx hby d14_38 rfl rfl ?_
 refine w_iadd (pc' := 40) X138 hx hby d14_39 rfl ?_
 obtain ⟨T139, h139, X139, e139, W139, st139⟩ := putF X138 hx hZ hown (host := "") (Or.inl (wi hw 296 rfl)) Via.refl e138 f130 f127 (Or.inl (wi hw 297 rfl)) (wi hw 259 rfl) (ty := .int) (by decide) rfl rfl (g := (mkF m 40 #[vR sb, vR sa, vI nn] [(.int (kk + nn)), (.ref sb)])) rfl rfl (hb hby d14_40)
 have N140 := Fr.snoc X139 N126 gs
 have f142 := f128.other W139 (Or.inr (slot_ne (t := (.array .byte)) (t' := .int) (Or.inl (wi hw 273 rfl)) (Or.inl (wi hw 297 rfl)) (by decide) (by decide) (by decide)))
 have f143 := f129.other W139 (Or.inr (slot_ne (t := .byte) (t' := .int) (Or.inl (wi hw 275 rfl)) (Or.inl (wi hw 297 rfl)) (by decide) (by decide) (by decide)))
 have f144 := f130.same W139
 have f149 := fq125_0.other W139 q4
 have Kp152 : Keep h0 h139 [sb, vb] := Kp136.wr W139 (Or.inl (List.mem_of_getElem? (i := 0) rfl))
 refine Rch.st (fun _ k => st139 _ k) ?_
 show Rch p e below T139 (mkF m 43 #[vR sb, vR sa, vI nn] []) _
 refine w_aloadN (pc' := 44) X139 hx hby d14_43 rfl rfl rfl ?_
 exact Rch.retV X139 hx Bd.returns rfl (Or.inr (Or.inr (Or.inr (Or.inr ⟨rfl, rfl, rfl⟩)))) (hb hby d14_44) (by rw [e139]; exact ⟨rfl, N140, Kp152, f142, f143, f144, f149⟩) (by decide) (by decide)

abbrev c15 : ByteArray := jdk_67_method_7_code
theorem d15_0 : decode c15 0 = .ok (.aload_n 0, 1) := by decide +kernel
theorem d15_1 : decode c15 1 = .ok (.aload_n 1, 1) := by decide +kernel
theorem d15_2 : decode c15 2 = .ok (.invokespecial 29, 3) := by decide +kernel
theorem d15_5 : decode c15 5 = .ok (.pop, 1) := by decide +kernel
theorem d15_6 : decode c15 6 = .ok (.aload_n 0, 1) := by decide +kernel
theorem d15_7 : decode c15 7 = .ok (.areturn, 1) := by decide +kernel
theorem ef_rm_Bap (m : MethodId) (G1 : Int32) (sb : Addr) (vb : Addr) (kv : ClassId) (kk : Int32) (pre : List Value) (sa : Addr) (bb : Addr) (kb : ClassId) (nn : Int32) (vs : List Value) (dd : Value)  : entryFrame m #[(.ref sb), (.ref sa)] 2 = mkF m 0 #[vR sb, vR sa] [] := by  first | (simp [entryFrame, mkF, argsToLocals, Value.category, maxLocals]; done) | rfl
def Q_rm_Bap (Z : State) (G1 : Int32) (sb : Addr) (vb : Addr) (kv : ClassId) (kk : Int32) (pre : List Value) (sa : Addr) (bb : Addr) (kb : ClassId) (nn : Int32) (vs : List Value) (dd : Value) (h0 : Heap) (n0 : Nat) (v : Option Value) (h : Heap) (L : List Loc) : Prop := (v = some (.ref sb)) ∧ (Fr n0 L) ∧ (Keep h0 h [sb, vb]) ∧ (Fld Z h sb "java/lang/AbstractStringBuilder" "value" "[B" (.ref vb)) ∧ (Fld Z h sb "java/lang/AbstractStringBuilder" "coder" "B" (.int (0 : Int32))) ∧ (Fld Z h sb "java/lang/AbstractStringBuilder" "count" "I" (.int (kk + nn))) ∧ (Arv Z h vb kv .byte (16 : Int32) (pre ++ own_take vs dd nn.toNatClampNeg) (Value.int (0 : Int32)))
theorem pd__Ljava_lang_String__Ljava_lang_AbstractStringBuilder_ : parseMethodDescriptor "(Ljava/lang/String;)Ljava/lang/AbstractStringBuilder;" = some ⟨[(.object "java/lang/String")], (some (.object "java/lang/AbstractStringBuilder"))⟩ := by decide +kernel
set_option maxRecDepth 65536 in
set_option maxHeartbeats 40000000 in
theorem rm_Bap (l : Launch) (Z : State) (a0 : Array Value) (hw : ∀ d ∈ tables_1, d.before a0 Z = true) (ws : List Jvm.Cond) (G1 : Int32) (sb : Addr) (vb : Addr) (kv : ClassId) (kk : Int32) (pre : List Value) (sa : Addr) (bb : Addr) (kb : ClassId) (nn : Int32) (vs : List Value) (dd : Value) (h0 : Heap) (n0 : Nat) (Z0 : n0 ≤ h0.size) (O2 : Sta Z Z.heap "java/lang/String" "COMPACT_STRINGS" "Z" (.int G1)) (P5 : ¬ G1 = 0) (f2 : Exa Z h0 sb "java/lang/StringBuilder") (f3 : Fld Z h0 sb "java/lang/AbstractStringBuilder" "value" "[B" (.ref vb)) (f4 : Fld Z h0 sb "java/lang/AbstractStringBuilder" "coder" "B" (.int (0 : Int32))) (f5 : Fld Z h0 sb "java/lang/AbstractStringBuilder" "count" "I" (.int kk)) (f6 : Arv Z h0 vb kv .byte (16 : Int32) pre (Value.int (0 : Int32))) (f7 : Exa Z h0 sa "java/lang/String") (f8 : Fld Z h0 sa "java/lang/String" "coder" "B" (.int (0 : Int32))) (f9 : Fld Z h0 sa "java/lang/String" "value" "[B" (.ref bb)) (f10 : Arv Z h0 bb kb .byte nn vs dd) (hk0 : ¬ kk < 0) (hn0 : ¬ nn < 0) (hkl : kk.toNatClampNeg = pre.length) (h16 : pre.length + nn.toNatClampNeg ≤ 16) (hcap : ¬ (0 : Int32) < ((kk + nn) - (16 : Int32))) (gs : n0 ≤ sb) (gb : n0 ≤ vb) (q1 : bb ≠ vb) (q2 : sa ≠ sb) (q3 : bb ≠ sb) (q4 : vb ≠ sb) (q5 : sa ≠ vb) (Old0 : OldL Z n0 h0) :
    MetN l Z y_17 c15 2 (some (.object "java/lang/StringBuilder")) ws (Rm 4 0 0 61) #[(.ref sb), (.ref sa)] h0 (Q_rm_Bap Z G1 sb vb kv kk pre sa bb kb nn vs dd h0 n0) := by
 refine MetFree.of_bodySF (plainFor_of_name pn_java_lang_StringBuilder) hisR ?_
 intro p e s m args below meth c s₁ Bd hml0 hP hK
 obtain ⟨rfl, hZ, hh⟩ := hP
 have hx := Bd.exec
 have hby := Bd.bytes
 have hml : c.maxLocals = 2 := hml0
 have hown : s.vm.findClass "java/lang/StringBuilder" = some m.cls := findClass_of_methodNamed Bd.named
 have X0 : Stand p l e (Rm 4 0 0 61) s m #[(.ref sb), (.ref sa)] below meth c s₁ [] 0 0 := Stand.of_body Bd
 have e0 : s₁.heap = h0 := by rw [← hh, Bd.state]; rfl
 have N0 := Fr.nil n0
 have K00 : Keep h0 h0 [sb, vb] := Keep.refl _ _
 show Rch p e below s₁ (entryFrame m #[(.ref sb), (.ref sa)] 2) (FinP s (Q_rm_Bap Z G1 sb vb kv kk pre sa bb kb nn vs dd h0 n0) 0 0)
 refine Rch.cast (ef_rm_Bap m G1 sb vb kv kk pre sa bb kb nn vs dd) ?_
 show Rch p e below s₁ (mkF m 0 #[vR sb, vR sa] []) _
 refine w_aloadN (pc' := 1) X0 hx hby d15_0 rfl rfl rfl ?_
 refine w_aloadN (pc' := 2) X0 hx hby d15_1 rfl rfl rfl ?_
 obtain ⟨_, _, ⟨T153, L153, k153, n153⟩, -, X153, ⟨Lc153, hQ153, l153, y153, z153⟩, st153⟩ := superBack X0 hx hZ (y := y_16) hown (wi hw 281 rfl) (own_sameM (args := a0) (wi hw 301 rfl) rfl (wi hw 282 rfl) (by decide)) (wi hw 282 rfl) (wi hw 283 rfl) (by decide) (backOf (W := 0) (rm_Aap l Z a0 hw [] G1 sb vb kv kk pre sa bb kb nn vs dd h0 n0 Z0 (O2) (P5) f2 f3 f4 f5 f6 f7 f8 f9 f10 (hk0) (hn0) (hkl) (h16) (hcap) (gs) (gb) (q1) (q2) (q3) (q4) (q5) Old0) hZ (wi hw 285 rfl) (wi hw 268 rfl) (by decide) (by decide)) e0 (Ins.self f2) (g := (mkF m 2 #[vR sb, vR sa] [(.ref sa), (.ref sb)])) rfl (by rw [hml]; rfl) (wi hw 285 rfl) (argsL := [(.ref sa)]) (rest := []) (lenOf pd__Ljava_lang_String__Ljava_lang_AbstractStringBuilder_ rfl) rfl (by show 2 * 0 + _ ≤ _; exact Nat.le_of_eq rfl) (hb hby d15_2) (fun _ _ => ⟨rfl, e0, (by decide : 0 + 0 ≤ _), (by decide : 0 + 0 ≤ _)⟩)
 dsimp only [Pt.U, Pt.locs, Pt.cells, Pt.slots] at X153 l153 y153 z153 st153 hQ153
 subst l153 y153 z153
 obtain ⟨rfl, NQ153, K153, fq153_0, fq153_1, fq153_2, fq153_3⟩ := hQ153
 have N154 := Fr.app N0 NQ153
 have Kp161 : Keep h0 T153.heap [sb, vb] := K00.trans K153 (allS (Or.inl (List.mem_of_getElem? (i := 0) rfl)) (allS (Or.inl (List.mem_of_getElem? (i := 1) rfl)) all0))
 refine Rch.st (fun _ k => st153.trans k) ?_
 show Rch p e below T153 (mkF m 5 #[vR sb, vR sa] [(.ref sb)]) _
 refine w_pop (pc' := 6) X153 hx hby d15_5 rfl rfl ?_
 refine w_aloadN (pc' := 7) X153 hx hby d15_6 rfl rfl rfl ?_
 exact Rch.retV X153 hx Bd.returns rfl (Or.inr (Or.inr (Or.inr (Or.inr ⟨rfl, rfl, rfl⟩)))) (hb hby d15_7) (by rw [(rfl : T153.heap = T153.heap)]; exact ⟨rfl, N154, Kp161, fq153_0, fq153_1, fq153_2, fq153_3⟩) (by decide) (by decide)

abbrev c16 : ByteArray := jdk_68_method_64_code
theorem d16_0 : decode c16 0 = .ok (.aload_n 0, 1) := by decide +kernel
theorem d16_1 : decode c16 1 = .ok (.getfield 15, 3) := by decide +kernel
theorem d16_4 : decode c16 4 = .ok (.areturn, 1) := by decide +kernel
theorem ef_rm_gv (m : MethodId) (sb : Addr) (vb : Addr) (kv : ClassId) (kk : Int32) (pre : List Value)  : entryFrame m #[(.ref sb)] 1 = mkF m 0 #[vR sb] [] := by  first | (simp [entryFrame, mkF, argsToLocals, Value.category, maxLocals]; done) | rfl
def Q_rm_gv (Z : State) (sb : Addr) (vb : Addr) (kv : ClassId) (kk : Int32) (pre : List Value) (h0 : Heap) (n0 : Nat) (v : Option Value) (h : Heap) (L : List Loc) : Prop := (v = some (.ref vb)) ∧ (Fr n0 L) ∧ (h = h0)
set_option maxRecDepth 65536 in
set_option maxHeartbeats 40000000 in
theorem rm_gv (l : Launch) (Z : State) (a0 : Array Value) (hw : ∀ d ∈ tables_1, d.before a0 Z = true) (ws : List Jvm.Cond) (sb : Addr) (vb : Addr) (kv : ClassId) (kk : Int32) (pre : List Value) (h0 : Heap) (n0 : Nat) (Z0 : n0 ≤ h0.size) (f0 : Exa Z h0 sb "java/lang/StringBuilder") (f1 : Fld Z h0 sb "java/lang/AbstractStringBuilder" "value" "[B" (.ref vb)) (f2 : Fld Z h0 sb "java/lang/AbstractStringBuilder" "coder" "B" (.int (0 : Int32))) (f3 : Fld Z h0 sb "java/lang/AbstractStringBuilder" "count" "I" (.int kk)) (f4 : Arv Z h0 vb kv .byte (16 : Int32) pre (Value.int (0 : Int32))) :
    MetN l Z y_18 c16 1 (some (.array .byte)) ws (Rm 0 0 0 0) #[(.ref sb)] h0 (Q_rm_gv Z sb vb kv kk pre h0 n0) := by
 refine MetFree.of_bodySF (plainFor_of_name pn_java_lang_AbstractStringBuilder) hisR ?_
 intro p e s m args below meth c s₁ Bd hml0 hP hK
 obtain ⟨rfl, hZ, hh⟩ := hP
 have hx := Bd.exec
 have hby := Bd.bytes
 have hml : c.maxLocals = 1 := hml0
 have hown : s.vm.findClass "java/lang/AbstractStringBuilder" = some m.cls := findClass_of_methodNamed Bd.named
 have X0 : Stand p l e (Rm 0 0 0 0) s m #[(.ref sb)] below meth c s₁ [] 0 0 := Stand.of_body Bd
 have e0 : s₁.heap = h0 := by rw [← hh, Bd.state]; rfl
 have N0 := Fr.nil n0
 have K00 : Keep h0 h0 [] := Keep.refl _ _
 show Rch p e below s₁ (entryFrame m #[(.ref sb)] 1) (FinP s (Q_rm_gv Z sb vb kv kk pre h0 n0) 0 0)
 refine Rch.cast (ef_rm_gv m sb vb kv kk pre) ?_
 show Rch p e below s₁ (mkF m 0 #[vR sb] []) _
 refine w_aloadN (pc' := 1) X0 hx hby d16_0 rfl rfl rfl ?_
 obtain ⟨T163, X163, e163, st163⟩ := getF X0 hx hZ hown (host := "") (Or.inl (wi hw 272 rfl)) Via.refl e0 f1 (g := (mkF m 1 #[vR sb] [(.ref sb)])) rfl rfl (hb hby d16_1)
 refine Rch.st (fun _ k => st163 _ k) ?_
 show Rch p e below T163 (mkF m 4 #[vR sb] [(.ref vb)]) _
 exact Rch.retV X163 hx Bd.returns rfl (Or.inr (Or.inr (Or.inr (Or.inr ⟨rfl, rfl, rfl⟩)))) (hb hby d16_4) (by rw [e163]; exact ⟨rfl, N0, rfl⟩) (by decide) (by decide)

abbrev c17 : ByteArray := jdk_68_method_6_code
theorem d17_0 : decode c17 0 = .ok (.aload_n 0, 1) := by decide +kernel
theorem d17_1 : decode c17 1 = .ok (.getfield 79, 3) := by decide +kernel
theorem d17_4 : decode c17 4 = .ok (.ireturn, 1) := by decide +kernel
theorem ef_rm_Al (m : MethodId) (sb : Addr) (vb : Addr) (kv : ClassId) (kk : Int32) (pre : List Value)  : entryFrame m #[(.ref sb)] 1 = mkF m 0 #[vR sb] [] := by  first | (simp [entryFrame, mkF, argsToLocals, Value.category, maxLocals]; done) | rfl
def Q_rm_Al (Z : State) (sb : Addr) (vb : Addr) (kv : ClassId) (kk : Int32) (pre : List Value) (h0 : Heap) (n0 : Nat) (v : Option Value) (h : Heap) (L : List Loc) : Prop := (v = some (.int kk)) ∧ (Fr n0 L) ∧ (h = h0)
set_option maxRecDepth 65536 in
set_option maxHeartbeats 40000000 in
theorem rm_Al (l : Launch) (Z : State) (a0 : Array Value) (hw : ∀ d ∈ tables_1, d.before a0 Z = true) (ws : List Jvm.Cond) (sb : Addr) (vb : Addr) (kv : ClassId) (kk : Int32) (pre : List Value) (h0 : Heap) (n0 : Nat) (Z0 : n0 ≤ h0.size) (f0 : Exa Z h0 sb "java/lang/StringBuilder") (f1 : Fld Z h0 sb "java/lang/AbstractStringBuilder" "value" "[B" (.ref vb)) (f2 : Fld Z h0 sb "java/lang/AbstractStringBuilder" "coder" "B" (.int (0 : Int32))) (f3 : Fld Z h0 sb "java/lang/AbstractStringBuilder" "count" "I" (.int kk)) (f4 : Arv Z h0 vb kv .byte (16 : Int32) pre (Value.int (0 : Int32))) :
    MetN l Z y_19 c17 1 (some .int) ws (Rm 0 0 0 0) #[(.ref sb)] h0 (Q_rm_Al Z sb vb kv kk pre h0 n0) := by
 refine MetFree.of_bodySF (plainFor_of_name pn_java_lang_AbstractStringBuilder) hisR ?_
 intro p e s m args below meth c s₁ Bd hml0 hP hK
 obtain ⟨rfl, hZ, hh⟩ := hP
 have hx := Bd.exec
 have hby := Bd.bytes
 have hml : c.maxLocals = 1 := hml0
 have hown : s.vm.findClass "java/lang/AbstractStringBuilder" = some m.cls := findClass_of_methodNamed Bd.named
 have X0 : Stand p l e (Rm 0 0 0 0) s m #[(.ref sb)] below meth c s₁ [] 0 0 := Stand.of_body Bd
 have e0 : s₁.heap = h0 := by rw [← hh, Bd.state]; rfl
 have N0 := Fr.nil n0
 have K00 : Keep h0 h0 [] := Keep.refl _ _
 show Rch p e below s₁ (entryFrame m #[(.ref sb)] 1) (FinP s (Q_rm_Al Z sb vb kv kk pre h0 n0) 0 0)
 refine Rch.cast (ef_rm_Al m sb vb kv kk pre) ?_
 show Rch p e below s₁ (mkF m 0 #[vR sb] []) _
 refine w_aloadN (pc' := 1) X0 hx hby d17_0 rfl rfl rfl ?_
 obtain ⟨T164, X164, e164, st164⟩ := getF X0 hx hZ hown (host := "") (Or.inl (wi hw 296 rfl)) Via.refl e0 f3 (g := (mkF m 1 #[vR sb] [(.ref sb)])) rfl rfl (hb hby d17_1)
 refine Rch.st (fun _ k => st164 _ k) ?_
 show Rch p e below T164 (mkF m 4 #[vR sb] [(.int kk)]) _
 exact Rch.retV X164 hx Bd.returns rfl (Or.inl ⟨rfl, by simp, _, rfl⟩) (hb hby d17_4) (by rw [e164]; exact ⟨rfl, N0, rfl⟩) (by decide) (by decide)

abbrev c18 : ByteArray := jdk_67_method_93_code
theorem d18_0 : decode c18 0 = .ok (.aload_n 0, 1) := by decide +kernel
theorem d18_1 : decode c18 1 = .ok (.invokespecial 343, 3) := by decide +kernel
theorem d18_4 : decode c18 4 = .ok (.ireturn, 1) := by decide +kernel
theorem ef_rm_Bl (m : MethodId) (sb : Addr) (vb : Addr) (kv : ClassId) (kk : Int32) (pre : List Value)  : entryFrame m #[(.ref sb)] 1 = mkF m 0 #[vR sb] [] := by  first | (simp [entryFrame, mkF, argsToLocals, Value.category, maxLocals]; done) | rfl
def Q_rm_Bl (Z : State) (sb : Addr) (vb : Addr) (kv : ClassId) (kk : Int32) (pre : List Value) (h0 : Heap) (n0 : Nat) (v : Option Value) (h : Heap) (L : List Loc) : Prop := (v = some (.int kk)) ∧ (Fr n0 L) ∧ (h = h0)
set_option maxRecDepth 65536 in
set_option maxHeartbeats 40000000 in
theorem rm_Bl (l : Launch) (Z : State) (a0 : Array Value) (hw : ∀ d ∈ tables_1, d.before a0 Z = true) (ws : List Jvm.Cond) (sb : Addr) (vb : Addr) (kv : ClassId) (kk : Int32) (pre : List Value) (h0 : Heap) (n0 : Nat) (Z0 : n0 ≤ h0.size) (f0 : Exa Z h0 sb "java/lang/StringBuilder") (f1 : Fld Z h0 sb "java/lang/AbstractStringBuilder" "value" "[B" (.ref vb)) (f2 : Fld Z h0 sb "java/lang/AbstractStringBuilder" "coder" "B" (.int (0 : Int32))) (f3 : Fld Z h0 sb "java/lang/AbstractStringBuilder" "count" "I" (.int kk)) (f4 : Arv Z h0 vb kv .byte (16 : Int32) pre (Value.int (0 : Int32))) :
    MetN l Z y_20 c18 1 (some .int) ws (Rm 1 0 0 12) #[(.ref sb)] h0 (Q_rm_Bl Z sb vb kv kk pre h0 n0) := by
 refine MetFree.of_bodySF (plainFor_of_name pn_java_lang_StringBuilder) hisR ?_
 intro p e s m args below meth c s₁ Bd hml0 hP hK
 obtain ⟨rfl, hZ, hh⟩ := hP
 have hx := Bd.exec
 have hby := Bd.bytes
 have hml : c.maxLocals = 1 := hml0
 have hown : s.vm.findClass "java/lang/StringBuilder" = some m.cls := findClass_of_methodNamed Bd.named
 have X0 : Stand p l e (Rm 1 0 0 12) s m #[(.ref sb)] below meth c s₁ [] 0 0 := Stand.of_body Bd
 have e0 : s₁.heap = h0 := by rw [← hh, Bd.state]; rfl
 have N0 := Fr.nil n0
 have K00 : Keep h0 h0 [] := Keep.refl _ _
 show Rch p e below s₁ (entryFrame m #[(.ref sb)] 1) (FinP s (Q_rm_Bl Z sb vb kv kk pre h0 n0) 0 0)
 refine Rch.cast (ef_rm_Bl m sb vb kv kk pre) ?_
 show Rch p e below s₁ (mkF m 0 #[vR sb] []) _
 refine w_aloadN (pc' := 1) X0 hx hby d18_0 rfl rfl rfl ?_
 obtain ⟨_, _, ⟨T165, L165, k165, n165⟩, -, X165, ⟨Lc165, hQ165, l165, y165, z165⟩, st165⟩ := superBack X0 hx hZ (y := y_19) hown (wi hw 347 rfl) (own_sameM (args := a0) (wi hw 301 rfl) rfl (wi hw 343 rfl) (by decide)) (wi hw 343 rfl) (wi hw 283 rfl) (by decide) (backOf (W := 0) (rm_Al l Z a0 hw [] sb vb kv kk pre h0 n0 Z0 f0 f1 f2 f3 f4) hZ (wi hw 348 rfl) (wi hw 268 rfl) (by decide) (by decide)) e0 (Ins.self f0) (g := (mkF m 1 #[vR sb] [(.ref sb)])) rfl (by rw [hml]; rfl) (wi hw 348 rfl) (argsL := []) (rest := []) (lenOf pd___I rfl) rfl (by show 2 * 0 + _ ≤ _; exact Nat.le_of_eq rfl) (hb hby d18_1) (fun _ _ => ⟨rfl, e0, (by decide : 0 + 0 ≤ _), (by decide : 0 + 0 ≤ _)⟩)
 dsimp only [Pt.U, Pt.locs, Pt.cells, Pt.slots] at X165 l165 y165 z165 st165 hQ165
 subst l165 y165 z165
 obtain ⟨rfl, NQ165, K165⟩ := hQ165
 have N166 := Fr.app N0 NQ165
 refine Rch.st (fun _ k => st165.trans k) ?_
 show Rch p e below T165 (mkF m 4 #[vR sb] [(.int kk)]) _
 exact Rch.retV X165 hx Bd.returns rfl (Or.inl ⟨rfl, by simp, _, rfl⟩) (hb hby d18_4) (by rw [K165]; exact ⟨rfl, N166, rfl⟩) (by decide) (by decide)

abbrev c19 : ByteArray := jdk_68_method_68_code
theorem d19_0 : decode c19 0 = .ok (.getstatic 18, 3) := by decide +kernel
theorem d19_3 : decode c19 3 = .ok (.ifCond .eq 14, 3) := by decide +kernel
theorem d19_6 : decode c19 6 = .ok (.aload_n 0, 1) := by decide +kernel
theorem d19_7 : decode c19 7 = .ok (.getfield 22, 3) := by decide +kernel
theorem d19_10 : decode c19 10 = .ok (.ifCond .ne 7, 3) := by decide +kernel
theorem d19_13 : decode c19 13 = .ok (.iconst 1, 1) := by decide +kernel
theorem d19_14 : decode c19 14 = .ok (.goto 4, 3) := by decide +kernel
theorem d19_18 : decode c19 18 = .ok (.ireturn, 1) := by decide +kernel
theorem ef_rm_Ail (m : MethodId) (G1 : Int32) (sb : Addr) (vb : Addr) (kv : ClassId) (kk : Int32) (pre : List Value)  : entryFrame m #[(.ref sb)] 1 = mkF m 0 #[vR sb] [] := by  first | (simp [entryFrame, mkF, argsToLocals, Value.category, maxLocals]; done) | rfl
def Q_rm_Ail (Z : State) (G1 : Int32) (sb : Addr) (vb : Addr) (kv : ClassId) (kk : Int32) (pre : List Value) (h0 : Heap) (n0 : Nat) (v : Option Value) (h : Heap) (L : List Loc) : Prop := (v = some (.int (1 : Int32))) ∧ (Fr n0 L) ∧ (h = h0)
set_option maxRecDepth 65536 in
set_option maxHeartbeats 40000000 in
theorem rm_Ail (l : Launch) (Z : State) (a0 : Array Value) (hw : ∀ d ∈ tables_1, d.before a0 Z = true) (ws : List Jvm.Cond) (G1 : Int32) (sb : Addr) (vb : Addr) (kv : ClassId) (kk : Int32) (pre : List Value) (h0 : Heap) (n0 : Nat) (Z0 : n0 ≤ h0.size) (O2 : Sta Z Z.heap "java/lang/String" "COMPACT_STRINGS" "Z" (.int G1)) (P5 : ¬ G1 = 0) (f2 : Exa Z h0 sb "java/lang/StringBuilder") (f3 : Fld Z h0 sb "java/lang/AbstractStringBuilder" "value" "[B" (.ref vb)) (f4 : Fld Z h0 sb "java/lang/AbstractStringBuilder" "coder" "B" (.int (0 : Int32))) (f5 : Fld Z h0 sb "java/lang/AbstractStringBuilder" "count" "I" (.int kk)) (f6 : Arv Z h0 vb kv .byte (16 : Int32) pre (Value.int (0 : Int32))) (Old0 : OldL Z n0 h0) :
    MetN l Z y_21 c19 1 (some .boolean) ws (Rm 0 0 0 0) #[(.ref sb)] h0 (Q_rm_Ail Z G1 sb vb kv kk pre h0 n0) := by
 refine MetFree.of_bodySF (plainFor_of_name pn_java_lang_AbstractStringBuilder) hisR ?_
 intro p e s m args below meth c s₁ Bd hml0 hP hK
 obtain ⟨rfl, hZ, hh⟩ := hP
 have hx := Bd.exec
 have hby := Bd.bytes
 have hml : c.maxLocals = 1 := hml0
 have hown : s.vm.findClass "java/lang/AbstractStringBuilder" = some m.cls := findClass_of_methodNamed Bd.named
 have X0 : Stand p l e (Rm 0 0 0 0) s m #[(.ref sb)] below meth c s₁ [] 0 0 := Stand.of_body Bd
 have e0 : s₁.heap = h0 := by rw [← hh, Bd.state]; rfl
 have N0 := Fr.nil n0
 have K00 : Keep h0 h0 [] := Keep.refl _ _
 show Rch p e below s₁ (entryFrame m #[(.ref sb)] 1) (FinP s (Q_rm_Ail Z G1 sb vb kv kk pre h0 n0) 0 0)
 refine Rch.cast (ef_rm_Ail m G1 sb vb kv kk pre) ?_
 show Rch p e below s₁ (mkF m 0 #[vR sb] []) _
 obtain ⟨T167, X167, e167, st167⟩ := getS X0 hx hZ hown (host := "") (wi hw 271 rfl) Via.refl e0 (O2.ext Old0.2) (g := (mkF m 0 #[vR sb] [])) rfl (hb hby d19_0)
 refine Rch.st (fun _ k => st167 _ k) ?_
 show Rch p e below T167 (mkF m 3 #[vR sb] [(.int G1)]) _
 refine w_ifNo (pc' := 6) X167 hx hby d19_3 (XT.i0_eq_f (P5)) rfl ?_
 refine w_aloadN (pc' := 7) X167 hx hby d19_6 rfl rfl rfl ?_
 obtain ⟨T168, X168, e168, st168⟩ := getF X167 hx hZ hown (host := "") (Or.inl (wi hw 274 rfl)) Via.refl e167 f4 (g := (mkF m 7 #[vR sb] [(.ref sb)])) rfl rfl (hb hby d19_7)
 refine Rch.st (fun _ k => st168 _ k) ?_
 show Rch p e below T168 (mkF m 10 #[vR sb] [(.int 0)]) _
 refine w_ifNo (pc' := 13) X168 hx hby d19_10 (XT.i0_ne_f (by decide)) rfl ?_
 refine w_iconst (pc' := 14) (v := 1) X168 hx hby d19_13 rfl rfl ?_
 refine w_goto (pc' := 18) X168 hx hby d19_14 (by decide) ?_
 exact Rch.retV X168 hx Bd.returns rfl (Or.inl ⟨rfl, by simp, _, rfl⟩) (hb hby d19_18) (by rw [e168]; exact ⟨rfl, N0, rfl⟩) (by decide) (by decide)

abbrev c20 : ByteArray := jdk_42_method_150_code
theorem d20_0 : decode c20 0 = .ok (.aload_n 0, 1) := by decide +kernel
theorem d20_1 : decode c20 1 = .ok (.invokespecial 1, 3) := by decide +kernel
theorem d20_4 : decode c20 4 = .ok (.aload_n 1, 1) := by decide +kernel
theorem d20_5 : decode c20 5 = .ok (.invokevirtual 552, 3) := by decide +kernel
theorem d20_8 : decode c20 8 = .ok (.astore_n 3, 1) := by decide +kernel
theorem d20_9 : decode c20 9 = .ok (.aload_n 1, 1) := by decide +kernel
theorem d20_10 : decode c20 10 = .ok (.invokevirtual 549, 3) := by decide +kernel
theorem d20_13 : decode c20 13 = .ok (.istore 4, 2) := by decide +kernel
theorem d20_15 : decode c20 15 = .ok (.aload_n 1, 1) := by decide +kernel
theorem d20_16 : decode c20 16 = .ok (.invokevirtual 1047, 3) := by decide +kernel
theorem d20_19 : decode c20 19 = .ok (.ifCond .eq 22, 3) := by decide +kernel
theorem d20_22 : decode c20 22 = .ok (.aload_n 0, 1) := by decide +kernel
theorem d20_23 : decode c20 23 = .ok (.iconst 0, 1) := by decide +kernel
theorem d20_24 : decode c20 24 = .ok (.putfield 15, 3) := by decide +kernel
theorem d20_27 : decode c20 27 = .ok (.aload_n 0, 1) := by decide +kernel
theorem d20_28 : decode c20 28 = .ok (.aload_n 3, 1) := by decide +kernel
theorem d20_29 : decode c20 29 = .ok (.iconst 0, 1) := by decide +kernel
theorem d20_30 : decode c20 30 = .ok (.iload 4, 2) := by decide +kernel
theorem d20_32 : decode c20 32 = .ok (.invokestatic 54, 3) := by decide +kernel
theorem d20_35 : decode c20 35 = .ok (.putfield 9, 3) := by decide +kernel
theorem d20_38 : decode c20 38 = .ok (.goto 59, 3) := by decide +kernel
theorem d20_97 : decode c20 97 = .ok (.return_, 1) := by decide +kernel
theorem ef_rm_SA (m : MethodId) (G1 : Int32) (a5 : Addr) (sb : Addr) (vb : Addr) (kv : ClassId) (kk : Int32) (pre : List Value)  : entryFrame m #[(.ref a5), (.ref sb), .null] 5 = mkF m 0 #[vR a5, vR sb, vN, U, U] [] := by  first | (simp [entryFrame, mkF, argsToLocals, Value.category, maxLocals]; done) | rfl
def Q_rm_SA (Z : State) (G1 : Int32) (a5 : Addr) (sb : Addr) (vb : Addr) (kv : ClassId) (kk : Int32) (pre : List Value) (h0 : Heap) (n0 : Nat) (v : Option Value) (h : Heap) (L : List Loc) : Prop := ∃ (t : Addr) (kt : ClassId), (v = none) ∧ (Fr n0 L) ∧ (Keep h0 h [a5]) ∧ (h0.size ≤ t) ∧ (Fld Z h a5 "java/lang/String" "coder" "B" (.int (0 : Int32))) ∧ (Fld Z h a5 "java/lang/String" "value" "[B" (.ref t)) ∧ (Arv Z h t kt .byte kk (own_take pre (Value.int (0 : Int32)) kk.toNatClampNeg) (.int (0 : Int32)))
theorem pd____B : parseMethodDescriptor "()[B" = some ⟨[], (some (.array .byte))⟩ := by decide +kernel
theorem pd___Z : parseMethodDescriptor "()Z" = some ⟨[], (some .boolean)⟩ := by decide +kernel
set_option maxRecDepth 65536 in
set_option maxHeartbeats 40000000 in
theorem rm_SA (l : Launch) (Z : State) (a0 : Array Value) (hw : ∀ d ∈ tables_1, d.before a0 Z = true) (ws : List Jvm.Cond) (G1 : Int32) (a5 : Addr) (sb : Addr) (vb : Addr) (kv : ClassId) (kk : Int32) (pre : List Value) (h0 : Heap) (n0 : Nat) (Z0 : n0 ≤ h0.size) (O2 : Sta Z Z.heap "java/lang/String" "COMPACT_STRINGS" "Z" (.int G1)) (P5 : ¬ G1 = 0) (f2 : Exa Z h0 sb "java/lang/StringBuilder") (f3 : Fld Z h0 sb "java/lang/AbstractStringBuilder" "value" "[B" (.ref vb)) (f4 : Fld Z h0 sb "java/lang/AbstractStringBuilder" "coder" "B" (.int (0 : Int32))) (f5 : Fld Z h0 sb "java/lang/AbstractStringBuilder" "count" "I" (.int kk)) (f6 : Arv Z h0 vb kv .byte (16 : Int32) pre (Value.int (0 : Int32))) (f7 : Exa Z h0 a5 "java/lang/String") (f8 : Fld Z h0 a5 "java/lang/String" "coder" "B" (.int (0 : Int32))) (f9 : Fld Z h0 a5 "java/lang/String" "value" "[B" .null) (hz0 : ¬ kk < 0) (hc : kk.toNatClampNeg ≤ 16) (hm : own_min32 (16 : Int32) kk = kk) (hl : kk.toNatClampNeg ≤ (16 : Int32).toNatClampNeg) (hne : ¬ kk = (16 : Int32)) (ga : n0 ≤ a5) (q6 : sb ≠ a5) (q7 : vb ≠ a5) (Old0 : OldL Z n0 h0) :
    MetN l Z y_22 c20 5 none ws (Rm 3 1 16 49) #[(.ref a5), (.ref sb), .null] h0 (Q_rm_SA Z G1 a5 sb vb kv kk pre h0 n0) := by
 refine MetFree.of_bodySF (plainFor_of_name pn_java_lang_String) hisR ?_
 intro p e s m args below meth c s₁ Bd hml0 hP hK
 obtain ⟨rfl, hZ, hh⟩ := hP
 have hx := Bd.exec
 have hby := Bd.bytes
 have hml : c.maxLocals = 5 := hml0
 have hown : s.vm.findClass "java/lang/String" = some m.cls := findClass_of_methodNamed Bd.named
 have hnm := (name_of_methodNamed Bd.named Bd.method).1
 have X0 : Stand p l e (Rm 3 1 16 49) s m #[(.ref a5), (.ref sb), .null] below meth c s₁ [] 0 0 := Stand.of_body Bd
 have e0 : s₁.heap = h0 := by rw [← hh, Bd.state]; rfl
 have N0 := Fr.nil n0
 have K00 : Keep h0 h0 [a5] := Keep.refl _ _
 show Rch p e below s₁ (entryFrame m #[(.ref a5), (.ref sb), .null] 5) (FinP s (Q_rm_SA Z G1 a5 sb vb kv kk pre h0 n0) 1 16)
 refine Rch.cast (ef_rm_SA m G1 a5 sb vb kv kk pre) ?_
 show Rch p e below s₁ (mkF m 0 #[vR a5, vR sb, vN, U, U] []) _
 refine w_aloadN (pc' := 1) X0 hx hby d20_0 rfl rfl rfl ?_
 obtain ⟨T169, X169, e169, st169⟩ := initO X0 hx hZ hown (wi hw 15 rfl) (wi hw 16 rfl) (wi hw 17 rfl) e0 (g := (mkF m 1 #[vR a5, vR sb, vN, U, U] [(.ref a5)])) rfl (by rw [hml]; rfl) rfl (hb hby d20_1) (by decide) (W := 0) (by show 2 * 0 + _ ≤ _; exact Nat.le_of_eq rfl) (by decide)
 refine Rch.st (fun _ k => st169 _ k) ?_
 show Rch p e below T169 (mkF m 4 #[vR a5, vR sb, vN, U, U] []) _
 refine w_aloadN (pc' := 5) X169 hx hby d20_4 rfl rfl rfl ?_
 obtain ⟨cq170, kq170, q170a, q170b, q170c⟩ := isOf hZ e169 f2
 obtain ⟨_, _, ⟨T170, L170, k170, n170⟩, -, X170, ⟨Lc170, hQ170, l170, y170, z170⟩, st170⟩ := X169.virtualBack hx (y := y_18) (z := y_18) hown (mvT hZ (wi hw 336 rfl)) (mvT hZ (wi hw 337 rfl)) (notFace_of_selects (args := #[]) (mvT hZ (wi hw 339 rfl))) (mvT hZ (wi hw 339 rfl)) (mvT hZ (wi hw 338 rfl)) (by decide) (backOf (W := 0) (rm_gv l Z a0 hw [] sb vb kv kk pre h0 n0 Z0 f2 f3 f4 f5 f6) hZ (wi hw 340 rfl) (wi hw 268 rfl) (by decide) (by decide)) q170a q170c (g := (mkF m 5 #[vR a5, vR sb, vN, U, U] [(.ref sb)])) rfl (by rw [hml]; rfl) (Steps.refl _) (argsL := []) (rest := []) (lenOf pd____B rfl) rfl (by show 2 * 0 + _ ≤ _; exact Nat.le_of_eq rfl) (hb hby d20_5) (fun _ _ => ⟨rfl, e169, (by decide : 0 + 0 ≤ _), (by decide : 0 + 0 ≤ _)⟩)
 dsimp only [Pt.U, Pt.locs, Pt.cells, Pt.slots] at X170 l170 y170 z170 st170 hQ170
 subst l170 y170 z170
 obtain ⟨rfl, NQ170, K170⟩ := hQ170
 have N171 := Fr.app N0 NQ170
 refine Rch.st (fun _ k => st170.trans k) ?_
 show Rch p e below T170 (mkF m 8 #[vR a5, vR sb, vN, U, U] [(.ref vb)]) _
 refine w_astoreN (pc' := 9) (l' := #[vR a5, vR sb, vN, vR vb, U]) X170 hx hby d20_8 rfl rfl rfl ?_
 refine w_aloadN (pc' := 10) X170 hx hby d20_9 rfl rfl rfl ?_
 obtain ⟨cq172, kq172, q172a, q172b, q172c⟩ := isOf hZ K170 f2
 obtain ⟨_, _, ⟨T172, L172, k172, n172⟩, -, X172, ⟨Lc172, hQ172, l172, y172, z172⟩, st172⟩ := X170.virtualBack hx (y := y_19) (z := y_20) hown (mvT hZ (wi hw 341 rfl)) (mvT hZ (wi hw 342 rfl)) (own_nf (args := #[]) (mvT hZ (wi hw 301 rfl)) rfl) (mvT hZ (wi hw 344 rfl)) (mvT hZ (wi hw 345 rfl)) (by decide) (backOf (W := 0) (rm_Bl l Z a0 hw [] sb vb kv kk pre h0 n0 Z0 f2 f3 f4 f5 f6) hZ (wi hw 346 rfl) (wi hw 260 rfl) (by decide) (by decide)) q172a q172c (g := (mkF m 10 #[vR a5, vR sb, vN, vR vb, U] [(.ref sb)])) rfl (by rw [hml]; rfl) (Steps.refl _) (argsL := []) (rest := []) (lenOf pd___I rfl) rfl (by show 2 * 0 + _ ≤ _; exact Nat.le_of_eq rfl) (hb hby d20_10) (fun _ _ => ⟨rfl, K170, (by decide : 0 + 0 ≤ _), (by decide : 0 + 0 ≤ _)⟩)
 dsimp only [Pt.U, Pt.locs, Pt.cells, Pt.slots] at X172 l172 y172 z172 st172 hQ172
 subst l172 y172 z172
 obtain ⟨rfl, NQ172, K172⟩ := hQ172
 have N173 := Fr.app N171 NQ172
 refine Rch.st (fun _ k => st172.trans k) ?_
 show Rch p e below T172 (mkF m 13 #[vR a5, vR sb, vN, vR vb, U] [(.int kk)]) _
 refine w_istore (pc' := 15) (l' := #[vR a5, vR sb, vN, vR vb, vI kk]) X172 hx hby d20_13 rfl rfl ?_
 refine w_aloadN (pc' := 16) X172 hx hby d20_15 rfl rfl rfl ?_
 obtain ⟨cq174, kq174, q174a, q174b, q174c⟩ := isOf hZ K172 f2
 obtain ⟨_, _, ⟨T174, L174, k174, n174⟩, -, X174, ⟨Lc174, hQ174, l174, y174, z174⟩, st174⟩ := X172.virtualBack hx (y := y_21) (z := y_21) hown (mvT hZ (wi hw 349 rfl)) (mvT hZ (wi hw 350 rfl)) (notFace_of_selects (args := #[]) (mvT hZ (wi hw 352 rfl))) (mvT hZ (wi hw 352 rfl)) (mvT hZ (wi hw 351 rfl)) (by decide) (backOf (W := 0) (rm_Ail l Z a0 hw [] G1 sb vb kv kk pre h0 n0 Z0 (O2) (P5) f2 f3 f4 f5 f6 Old0) hZ (wi hw 353 rfl) (wi hw 268 rfl) (by decide) (by decide)) q174a q174c (g := (mkF m 16 #[vR a5, vR sb, vN, vR vb, vI kk] [(.ref sb)])) rfl (by rw [hml]; rfl) (Steps.refl _) (argsL := []) (rest := []) (lenOf pd___Z rfl) rfl (by show 2 * 0 + _ ≤ _; exact Nat.le_of_eq rfl) (hb hby d20_16) (fun _ _ => ⟨rfl, K172, (by decide : 0 + 0 ≤ _), (by decide : 0 + 0 ≤ _)⟩)
 dsimp only [Pt.U, Pt.locs, Pt.cells, Pt.slots] at X174 l174 y174 z174 st174 hQ174
 subst l174 y174 z174
 obtain ⟨rfl, NQ174, K174⟩ := hQ174
 have N175 := Fr.app N173 NQ174
 refine Rch.st (fun _ k => st174.trans k) ?_
 show Rch p e below T174 (mkF m 19 #[vR a5, vR sb, vN, vR vb, vI kk] [(.int 1)]) _
 refine w_ifNo (pc' := 22) X174 hx hby d20_19 (XT.i0_eq_f (by decide)) rfl ?_
 refine w_aloadN (pc' := 23) X174 hx hby d20_22 rfl rfl rfl ?_
 refine w_iconst (pc' := 24) (v := 0) X174 hx hby d20_23 rfl rfl ?_
 obtain ⟨T176, h176, X176, e176, W176, st176⟩ := putF X174 hx hZ hown (host := "") (Or.inl (wi hw 30 rfl)) Via.refl K174 f8 f7 (Or.inr ⟨(wi hw 31 rfl), rfl, hnm⟩) (wi hw 6 rfl) (ty := .byte) (by decide) rfl rfl (g := (mkF m 24 #[vR a5, vR sb, vN, vR vb, vI kk] [(.int 0), (.ref a5)])) rfl rfl (hb hby d20_24)
 have N177 := Fr.snoc X176 N175 ga
 have f182 := f6.other W176 q7
 have f183 := f7.wr W176
 have f184 := f8.same W176
 have f185 := f9.other W176 (Or.inr (slot_ne (t := (.array .byte)) (t' := .byte) (Or.inr (wi hw 33 rfl)) (Or.inr (wi hw 31 rfl)) (by decide) (by decide) (by decide)))
 have Z187 := Nat.le_trans Z0 (Keep.of_wr W176).1
 have Kp188 : Keep h0 h176 [a5] := K00.wr W176 (Or.inl (List.mem_of_getElem? (i := 0) rfl))
 refine Rch.st (fun _ k => st176 _ k) ?_
 show Rch p e below T176 (mkF m 27 #[vR a5, vR sb, vN, vR vb, vI kk] []) _
 refine w_aloadN (pc' := 28) X176 hx hby d20_27 rfl rfl rfl ?_
 refine w_aloadN (pc' := 29) X176 hx hby d20_28 rfl rfl rfl ?_
 refine w_iconst (pc' := 30) (v := 0) X176 hx hby d20_29 rfl rfl ?_
 refine w_iload (pc' := 32) X176 hx hby d20_30 rfl rfl ?_
 obtain ⟨_, _, ⟨T189, L189, k189, n189⟩, -, X189, ⟨Lc189, hQ189, l189, y189, z189⟩, st189⟩ := Jvm.LawKit.callS X176 hx (y := y_9) hown (mvT hZ (wi hw 354 rfl)) (mvT hZ (wi hw 355 rfl)) (mvT hZ (wi hw 356 rfl)) (mvT hZ (wi hw 357 rfl)) (by decide) (backOf (W := 1) (rm_cr l Z a0 hw [] vb kv 16 pre (Value.int (0 : Int32)) kk h176 n0 Z187 f182 (hz0) (hc) (hm) (hl) (hne)) hZ (wi hw 357 rfl) (wi hw 356 rfl) (by decide) (by decide)) (g := (mkF m 32 #[vR a5, vR sb, vN, vR vb, vI kk] [(.int kk), (.int 0), (.ref vb), (.ref a5)])) rfl (by rw [hml]; rfl) (argsL := [(.ref vb), (.int 0), (.int kk)]) (rest := [(.ref a5)]) (lenOf pd___BII__B rfl) rfl (by show 2 * 0 + _ ≤ _; exact Nat.le_of_eq rfl) (hb hby d20_32) (fun _ _ => ⟨rfl, e176, (by decide : 0 + 1 ≤ _), (by decide : 0 + 16 ≤ _)⟩)
 dsimp only [Pt.U, Pt.locs, Pt.cells, Pt.slots] at X189 l189 y189 z189 st189 hQ189
 subst l189 y189 z189
 obtain ⟨t_189, kt_189, rfl, NQ189, K189, pq189_0, fq189_0⟩ := hQ189
 have N190 := Fr.app N177 NQ189
 have ne191 := nlt f183.lt pq189_0
 have f200 := f183.keep K189
 have f201 := f184.keep K189 nin0
 have f202 := f185.keep K189 nin0
 have Kp204 : Keep h0 T189.heap [a5] := Kp188.trans K189 all0
 refine Rch.st (fun _ k => st189 _ k) ?_
 show Rch p e below T189 (mkF m 35 #[vR a5, vR sb, vN, vR vb, vI kk] [(.ref t_189), (.ref a5)]) _
 obtain ⟨T206, h206, X206, e206, W206, st206⟩ := putF X189 hx hZ hown (host := "") (Or.inl (wi hw 32 rfl)) Via.refl (rfl : T189.heap = T189.heap) f202 f200 (Or.inr ⟨(wi hw 33 rfl), rfl, hnm⟩) (wi hw 6 rfl) (ty := (.array .byte)) (by decide) rfl rfl (g := (mkF m 35 #[vR a5, vR sb, vN, vR vb, vI kk] [(.ref t_189), (.ref a5)])) rfl rfl (hb hby d20_35)
 have N207 := Fr.snoc X206 N190 ga
 have f214 := f201.other W206 (Or.inr (slot_ne (t := .byte) (t' := (.array .byte)) (Or.inr (wi hw 31 rfl)) (Or.inr (wi hw 33 rfl)) (by decide) (by decide) (by decide)))
 have f215 := f202.same W206
 have f216 := fq189_0.other W206 (Ne.symm ne191)
 have Kp219 : Keep h0 h206 [a5] := Kp204.wr W206 (Or.inl (List.mem_of_getElem? (i := 0) rfl))
 refine Rch.st (fun _ k => st206 _ k) ?_
 show Rch p e below T206 (mkF m 38 #[vR a5, vR sb, vN, vR vb, vI kk] []) _
 refine w_goto (pc' := 97) X206 hx hby d20_38 (by decide) ?_
 exact Rch.ret0 X206 hx Bd.returns (hb hby d20_97) (by rw [e206]; exact ⟨t_189, kt_189, rfl, N207, Kp219, (Nat.le_trans Kp188.1 pq189_0), f214, f215, f216⟩) (by decide) (by decide)

abbrev c21 : ByteArray := jdk_42_method_53_code
theorem d21_0 : decode c21 0 = .ok (.aload_n 0, 1) := by decide +kernel
theorem d21_1 : decode c21 1 = .ok (.aload_n 1, 1) := by decide +kernel
theorem d21_2 : decode c21 2 = .ok (.aconst_null, 1) := by decide +kernel
theorem d21_3 : decode c21 3 = .ok (.invokespecial 489, 3) := by decide +kernel
theorem d21_6 : decode c21 6 = .ok (.return_, 1) := by decide +kernel
theorem ef_rm_SB (m : MethodId) (G1 : Int32) (a5 : Addr) (sb : Addr) (vb : Addr) (kv : ClassId) (kk : Int32) (pre : List Value)  : entryFrame m #[(.ref a5), (.ref sb)] 2 = mkF m 0 #[vR a5, vR sb] [] := by  first | (simp [entryFrame, mkF, argsToLocals, Value.category, maxLocals]; done) | rfl
def Q_rm_SB (Z : State) (G1 : Int32) (a5 : Addr) (sb : Addr) (vb : Addr) (kv : ClassId) (kk : Int32) (pre : List Value) (h0 : Heap) (n0 : Nat) (v : Option Value) (h : Heap) (L : List Loc) : Prop := ∃ (t : Addr) (kt : ClassId), (v = none) ∧ (Fr n0 L) ∧ (Keep h0 h [a5]) ∧ (h0.size ≤ t) ∧ (Fld Z h a5 "java/lang/String" "coder" "B" (.int (0 : Int32))) ∧ (Fld Z h a5 "java/lang/String" "value" "[B" (.ref t)) ∧ (Arv Z h t kt .byte kk (own_take pre (Value.int (0 : Int32)) kk.toNatClampNeg) (.int (0 : Int32)))
theorem pd__Ljava_lang_AbstractStringBuilder_Ljava_lang_Void__V : parseMethodDescriptor "(Ljava/lang/AbstractStringBuilder;Ljava/lang/Void;)V" = some ⟨[(.object "java/lang/AbstractStringBuilder"), (.object "java/lang/Void")], none⟩ := by decide +kernel
set_option maxRecDepth 65536 in
set_option maxHeartbeats 40000000 in
theorem rm_SB (l : Launch) (Z : State) (a0 : Array Value) (hw : ∀ d ∈ tables_1, d.before a0 Z = true) (ws : List Jvm.Cond) (G1 : Int32) (a5 : Addr) (sb : Addr) (vb : Addr) (kv : ClassId) (kk : Int32) (pre : List Value) (h0 : Heap) (n0 : Nat) (Z0 : n0 ≤ h0.size) (O2 : Sta Z Z.heap "java/lang/String" "COMPACT_STRINGS" "Z" (.int G1)) (P5 : ¬ G1 = 0) (f2 : Exa Z h0 sb "java/lang/StringBuilder") (f3 : Fld Z h0 sb "java/lang/AbstractStringBuilder" "value" "[B" (.ref vb)) (f4 : Fld Z h0 sb "java/lang/AbstractStringBuilder" "coder" "B" (.int (0 : Int32))) (f5 : Fld Z h0 sb "java/lang/AbstractStringBuilder" "count" "I" (.int kk)) (f6 : Arv Z h0 vb kv .byte (16 : Int32) pre (Value.int (0 : Int32))) (f7 : Exa Z h0 a5 "java/lang/String") (f8 : Fld Z h0 a5 "java/lang/String" "coder" "B" (.int (0 : Int32))) (f9 : Fld Z h0 a5 "java/lang/String" "value" "[B" .null) (hz0 : ¬ kk < 0) (hc : kk.toNatClampNeg ≤ 16) (hm : own_min32 (16 : Int32) kk = kk) (hl : kk.toNatClampNeg ≤ (16 : Int32).toNatClampNeg) (hne : ¬ kk = (16 : Int32)) (ga : n0 ≤ a5) (q6 : sb ≠ a5) (q7 : vb ≠ a5) (Old0 : OldL Z n0 h0) :
    MetN l Z y_23 c21 2 none ws (Rm 4 1 16 65) #[(.ref a5), (.ref sb)] h0 (Q_rm_SB Z G1 a5 sb vb kv kk pre h0 n0) := by
 refine MetFree.of_bodySF (plainFor_of_name pn_java_lang_String) hisR ?_
 intro p e s m args below meth c s₁ Bd hml0 hP hK
 obtain ⟨rfl, hZ, hh⟩ := hP
 have hx := Bd.exec
 have hby := Bd.bytes
 have hml : c.maxLocals = 2 := hml0
 have hown : s.vm.findClass "java/lang/String" = some m.cls := findClass_of_methodNamed Bd.named
 have X0 : Stand p l e (Rm 4 1 16 65) s m #[(.ref a5), (.ref sb)] below meth c s₁ [] 0 0 := Stand.of_body Bd
 have e0 : s₁.heap = h0 := by rw [← hh, Bd.state]; rfl
 have N0 := Fr.nil n0
 have K00 : Keep h0 h0 [a5] := Keep.refl _ _
 show Rch p e below s₁ (entryFrame m #[(.ref a5), (.ref sb)] 2) (FinP s (Q_rm_SB Z G1 a5 sb vb kv kk pre h0 n0) 1 16)
 refine Rch.cast (ef_rm_SB m G1 a5 sb vb kv kk pre) ?_
 show Rch p e below s₁ (mkF m 0 #[vR a5, vR sb] []) _
 refine w_aloadN (pc' := 1) X0 hx hby d21_0 rfl rfl rfl ?_
 refine w_aloadN (pc' := 2) X0 hx hby d21_1 rfl rfl rfl ?_
 refine w_aconstNull (pc' := 3) X0 hx hby d21_2 rfl ?_
 obtain ⟨_, _, ⟨T220, L220, k220, n220⟩, -, X220, ⟨Lc220, hQ220, l220, y220, z220⟩, st220⟩ := X0.specialBack hx (y := y_22) rfl hown (mvT hZ (wi hw 333 rfl)) (mvT hZ (wi hw 334 rfl)) (mvT hZ (wi hw 335 rfl)) (by decide) (backOf (W := 0) (rm_SA l Z a0 hw [] G1 a5 sb vb kv kk pre h0 n0 Z0 (O2) (P5) f2 f3 f4 f5 f6 f7 f8 f9 (hz0) (hc) (hm) (hl) (hne) (ga) (q6) (q7) Old0) hZ (wi hw 335 rfl) (wi hw 7 rfl) (by decide) (by decide)) (g := (mkF m 3 #[vR a5, vR sb] [.null, (.ref sb), (.ref a5)])) rfl (by rw [hml]; rfl) (Steps.refl _) (a := a5) (argsL := [(.ref sb), .null]) (rest := []) (lenOf pd__Ljava_lang_AbstractStringBuilder_Ljava_lang_Void__V rfl) rfl (by show 2 * 0 + _ ≤ _; exact Nat.le_of_eq rfl) (hb hby d21_3) (fun _ _ => ⟨rfl, e0, (by decide : 0 + 1 ≤ _), (by decide : 0 + 16 ≤ _)⟩)
 dsimp only [Pt.U, Pt.locs, Pt.cells, Pt.slots] at X220 l220 y220 z220 st220 hQ220
 subst l220 y220 z220
 obtain ⟨t_220, kt_220, rfl, NQ220, K220, pq220_0, fq220_0, fq220_1, fq220_2⟩ := hQ220
 have N221 := Fr.app N0 NQ220
 have Kp233 : Keep h0 T220.heap [a5] := K00.trans K220 (allS (Or.inl (List.mem_of_getElem? (i := 0) rfl)) all0)
 refine Rch.st (fun _ k => st220.trans k) ?_
 show Rch p e below T220 (mkF m 6 #[vR a5, vR sb] []) _
 exact Rch.ret0 X220 hx Bd.returns (hb hby d21_6) (by rw [(rfl : T220.heap = T220.heap)]; exact ⟨t_220, kt_220, rfl, N221, Kp233, (Nat.le_trans K00.1 pq220_0), fq220_0, fq220_1, fq220_2⟩) (by decide) (by decide)

abbrev c22 : ByteArray := jdk_67_method_42_code
theorem d22_0 : decode c22 0 = .ok (.new 18, 3) := by decide +kernel
theorem d22_3 : decode c22 3 = .ok (.dup, 1) := by decide +kernel
theorem d22_4 : decode c22 4 = .ok (.aload_n 0, 1) := by decide +kernel
theorem d22_5 : decode c22 5 = .ok (.invokespecial 137, 3) := by decide +kernel
theorem d22_8 : decode c22 8 = .ok (.areturn, 1) := by decide +kernel
theorem ef_rm_ts (m : MethodId) (G1 : Int32) (sb : Addr) (vb : Addr) (kv : ClassId) (kk : Int32) (pre : List Value)  : entryFrame m #[(.ref sb)] 1 = mkF m 0 #[vR sb] [] := by  first | (simp [entryFrame, mkF, argsToLocals, Value.category, maxLocals]; done) | rfl
def Q_rm_ts (Z : State) (G1 : Int32) (sb : Addr) (vb : Addr) (kv : ClassId) (kk : Int32) (pre : List Value) (h0 : Heap) (n0 : Nat) (v : Option Value) (h : Heap) (L : List Loc) : Prop := ∃ (ra : Addr) (t : Addr) (kt : ClassId), (v = some (.ref ra)) ∧ (Fr n0 L) ∧ (Keep h0 h []) ∧ (h0.size ≤ ra) ∧ (h0.size ≤ t) ∧ (Exa Z h ra "java/lang/String") ∧ (Fld Z h ra "java/lang/String" "coder" "B" (.int (0 : Int32))) ∧ (Fld Z h ra "java/lang/String" "value" "[B" (.ref t)) ∧ (Arv Z h t kt .byte kk (own_take pre (Value.int (0 : Int32)) kk.toNatClampNeg) (.int (0 : Int32)))
theorem pd__Ljava_lang_StringBuilder__V : parseMethodDescriptor "(Ljava/lang/StringBuilder;)V" = some ⟨[(.object "java/lang/StringBuilder")], none⟩ := by decide +kernel
set_option maxRecDepth 65536 in
set_option maxHeartbeats 40000000 in
theorem rm_ts (l : Launch) (Z : State) (a0 : Array Value) (hw : ∀ d ∈ tables_1, d.before a0 Z = true) (ws : List Jvm.Cond) (G1 : Int32) (sb : Addr) (vb : Addr) (kv : ClassId) (kk : Int32) (pre : List Value) (h0 : Heap) (n0 : Nat) (Z0 : n0 ≤ h0.size) (O2 : Sta Z Z.heap "java/lang/String" "COMPACT_STRINGS" "Z" (.int G1)) (P5 : ¬ G1 = 0) (f2 : Exa Z h0 sb "java/lang/StringBuilder") (f3 : Fld Z h0 sb "java/lang/AbstractStringBuilder" "value" "[B" (.ref vb)) (f4 : Fld Z h0 sb "java/lang/AbstractStringBuilder" "coder" "B" (.int (0 : Int32))) (f5 : Fld Z h0 sb "java/lang/AbstractStringBuilder" "count" "I" (.int kk)) (f6 : Arv Z h0 vb kv .byte (16 : Int32) pre (Value.int (0 : Int32))) (hz0 : ¬ kk < 0) (hc : kk.toNatClampNeg ≤ 16) (hm : own_min32 (16 : Int32) kk = kk) (hl : kk.toNatClampNeg ≤ (16 : Int32).toNatClampNeg) (hne : ¬ kk = (16 : Int32)) (Old0 : OldL Z n0 h0) :
    MetN l Z y_24 c22 1 (some (.object "java/lang/String")) ws (Rm 5 2 20 79) #[(.ref sb)] h0 (Q_rm_ts Z G1 sb vb kv kk pre h0 n0) := by
 refine MetFree.of_bodySF (plainFor_of_name pn_java_lang_StringBuilder) hisR ?_
 intro p e s m args below meth c s₁ Bd hml0 hP hK
 obtain ⟨rfl, hZ, hh⟩ := hP
 have hx := Bd.exec
 have hby := Bd.bytes
 have hml : c.maxLocals = 1 := hml0
 have hown : s.vm.findClass "java/lang/StringBuilder" = some m.cls := findClass_of_methodNamed Bd.named
 have X0 : Stand p l e (Rm 5 2 20 79) s m #[(.ref sb)] below meth c s₁ [] 0 0 := Stand.of_body Bd
 have e0 : s₁.heap = h0 := by rw [← hh, Bd.state]; rfl
 have N0 := Fr.nil n0
 have K00 : Keep h0 h0 [] := Keep.refl _ _
 show Rch p e below s₁ (entryFrame m #[(.ref sb)] 1) (FinP s (Q_rm_ts Z G1 sb vb kv kk pre h0 n0) 2 20)
 refine Rch.cast (ef_rm_ts m G1 sb vb kv kk pre) ?_
 show Rch p e below s₁ (mkF m 0 #[vR sb] []) _
 obtain ⟨T235, h235, X235, e235, E235, A235, D235, -, st235⟩ := newO X0 hx hZ hown (wi hw 329 rfl) (wi hw 6 rfl) (wi hw 7 rfl) e0 (g := (mkF m 0 #[vR sb] [])) rfl (hb hby d22_0) (by decide) (by decide)
 obtain ⟨a235, g235⟩ : ∃ z, z = h0.size := ⟨_, rfl⟩
 rw [← g235] at A235 D235 st235
 have ne236 : sb ≠ a235 := by rw [g235]; exact Nat.ne_of_lt f2.lt
 have ne237 : vb ≠ a235 := by rw [g235]; exact Nat.ne_of_lt f6.lt
 have ge238 : n0 ≤ a235 := Nat.le_trans Z0 (Nat.le_of_eq g235.symm)
 have f240 := f2.ext E235
 have f241 := f3.ext E235
 have f242 := f4.ext E235
 have f243 := f5.ext E235
 have f244 := f6.ext E235
 have Old245 := Old0.ext E235
 have Z246 := Nat.le_trans Z0 E235.1
 have Kp247 : Keep h0 h235 [] := K00.ext E235
 have f248 : Fld Z h235 a235 "java/lang/String" "coder" "B" (.int (0 : Int32)) := D235 (Or.inr (wi hw 31 rfl)) (ty := .byte) (by decide)
 have f249 : Fld Z h235 a235 "java/lang/String" "value" "[B" .null := D235 (Or.inr (wi hw 33 rfl)) (ty := (.array .byte)) (by decide)
 refine Rch.st (fun _ k => st235 _ k) ?_
 show Rch p e below T235 (mkF m 3 #[vR sb] [(.ref a235)]) _
 refine w_dup (pc' := 4) X235 hx hby d22_3 rfl rfl ?_
 refine w_aloadN (pc' := 5) X235 hx hby d22_4 rfl rfl rfl ?_
 obtain ⟨_, _, ⟨T250, L250, k250, n250⟩, -, X250, ⟨Lc250, hQ250, l250, y250, z250⟩, st250⟩ := X235.specialBack hx (y := y_23) rfl hown (mvT hZ (wi hw 330 rfl)) (mvT hZ (wi hw 331 rfl)) (mvT hZ (wi hw 332 rfl)) (by decide) (backOf (W := 1) (rm_SB l Z a0 hw [] G1 a235 sb vb kv kk pre h235 n0 Z246 (O2) (P5) f240 f241 f242 f243 f244 A235 f248 f249 (hz0) (hc) (hm) (hl) (hne) (ge238) (ne236) (ne237) Old245) hZ (wi hw 332 rfl) (wi hw 7 rfl) (by decide) (by decide)) (g := (mkF m 5 #[vR sb] [(.ref sb), (.ref a235), (.ref a235)])) rfl (by rw [hml]; rfl) (Steps.refl _) (a := a235) (argsL := [(.ref sb)]) (rest := [(.ref a235)]) (lenOf pd__Ljava_lang_StringBuilder__V rfl) rfl (by show 2 * 0 + _ ≤ _; exact Nat.le_of_eq rfl) (hb hby d22_5) (fun _ _ => ⟨rfl, e235, (by decide : 1 + 1 ≤ _), (by decide : 4 + 16 ≤ _)⟩)
 dsimp only [Pt.U, Pt.locs, Pt.cells, Pt.slots] at X250 l250 y250 z250 st250 hQ250
 subst l250 y250 z250
 obtain ⟨t_250, kt_250, rfl, NQ250, K250, pq250_0, fq250_0, fq250_1, fq250_2⟩ := hQ250
 have N251 := Fr.app N0 NQ250
 have f261 := A235.keep K250
 have Kp263 : Keep h0 T250.heap [] := Kp247.trans K250 (allS (Or.inr (Nat.le_trans K00.1 (Nat.le_of_eq g235.symm))) all0)
 refine Rch.st (fun _ k => st250.trans k) ?_
 show Rch p e below T250 (mkF m 8 #[vR sb] [(.ref a235)]) _
 exact Rch.retV X250 hx Bd.returns rfl (Or.inr (Or.inr (Or.inr (Or.inr ⟨rfl, rfl, rfl⟩)))) (hb hby d22_8) (by rw [(rfl : T250.heap = T250.heap)]; exact ⟨a235, t_250, kt_250, rfl, N251, Kp263, (Nat.le_trans K00.1 (Nat.le_of_eq g235.symm)), (Nat.le_trans Kp247.1 pq250_0), f261, fq250_0, fq250_1, fq250_2⟩) (by decide) (by decide)

abbrev c23 : ByteArray := jdk_52_method_21_code
theorem d23_0 : decode c23 0 = .ok (.iconst 0, 1) := by decide +kernel
theorem d23_1 : decode c23 1 = .ok (.istore 5, 2) := by decide +kernel
theorem d23_3 : decode c23 3 = .ok (.iload 5, 2) := by decide +kernel
theorem d23_5 : decode c23 5 = .ok (.iload 4, 2) := by decide +kernel
theorem d23_7 : decode c23 7 = .ok (.if_icmp .ge 37, 3) := by decide +kernel
theorem d23_10 : decode c23 10 = .ok (.aload_n 0, 1) := by decide +kernel
theorem d23_11 : decode c23 11 = .ok (.iload_n 1, 1) := by decide +kernel
theorem d23_12 : decode c23 12 = .ok (.caload, 1) := by decide +kernel
theorem d23_13 : decode c23 13 = .ok (.istore 6, 2) := by decide +kernel
theorem d23_15 : decode c23 15 = .ok (.iload 6, 2) := by decide +kernel
theorem d23_17 : decode c23 17 = .ok (.sipush 255, 3) := by decide +kernel
theorem d23_20 : decode c23 20 = .ok (.if_icmp .le 6, 3) := by decide +kernel
theorem d23_26 : decode c23 26 = .ok (.aload_n 2, 1) := by decide +kernel
theorem d23_27 : decode c23 27 = .ok (.iload_n 3, 1) := by decide +kernel
theorem d23_28 : decode c23 28 = .ok (.iload 6, 2) := by decide +kernel
theorem d23_30 : decode c23 30 = .ok (.i2b, 1) := by decide +kernel
theorem d23_31 : decode c23 31 = .ok (.bastore, 1) := by decide +kernel
theorem d23_32 : decode c23 32 = .ok (.iinc 1 1, 3) := by decide +kernel
theorem d23_35 : decode c23 35 = .ok (.iinc 3 1, 3) := by decide +kernel
theorem d23_38 : decode c23 38 = .ok (.iinc 5 1, 3) := by decide +kernel
theorem d23_41 : decode c23 41 = .ok (.goto (-38), 3) := by decide +kernel
theorem d23_44 : decode c23 44 = .ok (.iload 4, 2) := by decide +kernel
theorem d23_46 : decode c23 46 = .ok (.ireturn, 1) := by decide +kernel
theorem ef_rm_cmp5_2 (m : MethodId) (ca : Addr) (kc : ClassId) (bd : Addr) (kd : ClassId) (cc0 : Int32) (cc1 : Int32)  : entryFrame m #[(.ref ca), (.int (0 : Int32)), (.ref bd), (.int (0 : Int32)), (.int (2 : Int32))] 7 = mkF m 0 #[vR ca, vI 0, vR bd, vI 0, vI 2, U, U] [] := by  first | (simp [entryFrame, mkF, argsToLocals, Value.category, maxLocals]; done) | rfl
def Q_rm_cmp5_2 (Z : State) (ca : Addr) (kc : ClassId) (bd : Addr) (kd : ClassId) (cc0 : Int32) (cc1 : Int32) (h0 : Heap) (n0 : Nat) (v : Option Value) (h : Heap) (L : List Loc) : Prop := (v = some (.int (2 : Int32))) ∧ (Fr n0 L) ∧ (Keep h0 h [bd]) ∧ (Arv Z h bd kd .byte (2 : Int32) [(.int (own_by cc0)), (.int (own_by cc1))] (.int (0 : Int32)))
set_option maxRecDepth 65536 in
set_option maxHeartbeats 40000000 in
theorem rm_cmp5_2 (l : Launch) (Z : State) (a0 : Array Value) (hw : ∀ d ∈ tables_1, d.before a0 Z = true) (ws : List Jvm.Cond) (ca : Addr) (kc : ClassId) (bd : Addr) (kd : ClassId) (cc0 : Int32) (cc1 : Int32) (h0 : Heap) (n0 : Nat) (Z0 : n0 ≤ h0.size) (f0 : Arv Z h0 ca kc .char (2 : Int32) [(.int cc0), (.int cc1)] (.int (0 : Int32))) (f1 : Arv Z h0 bd kd .byte (2 : Int32) [(.int (0 : Int32)), (.int (0 : Int32))] (.int (0 : Int32))) (gd : n0 ≤ bd) (ncd : ca ≠ bd) (hg0 : ¬ (255 : Int32) < cc0) (hg1 : ¬ (255 : Int32) < cc1) :
    MetN l Z y_25 c23 7 (some .int) ws (Rm 0 0 0 0) #[(.ref ca), (.int (0 : Int32)), (.ref bd), (.int (0 : Int32)), (.int (2 : Int32))] h0 (Q_rm_cmp5_2 Z ca kc bd kd cc0 cc1 h0 n0) := by
 refine MetFree.of_bodySF (plainFor_of_name pn_java_lang_StringUTF16) hisR ?_
 intro p e s m args below meth c s₁ Bd hml0 hP hK
 obtain ⟨rfl, hZ, hh⟩ := hP
 have hx := Bd.exec
 have hby := Bd.bytes
 have hml : c.maxLocals = 7 := hml0
 have hown : s.vm.findClass "java/lang/StringUTF16" = some m.cls := findClass_of_methodNamed Bd.named
 have X0 : Stand p l e (Rm 0 0 0 0) s m #[(.ref ca), (.int (0 : Int32)), (.ref bd), (.int (0 : Int32)), (.int (2 : Int32))] below meth c s₁ [] 0 0 := Stand.of_body Bd
 have e0 : s₁.heap = h0 := by rw [← hh, Bd.state]; rfl
 have N0 := Fr.nil n0
 have K00 : Keep h0 h0 [bd] := Keep.refl _ _
 show Rch p e below s₁ (entryFrame m #[(.ref ca), (.int (0 : Int32)), (.ref bd), (.int (0 : Int32)), (.int (2 : Int32))] 7) (FinP s (Q_rm_cmp5_2 Z ca kc bd kd cc0 cc1 h0 n0) 0 0)
 refine Rch.cast (ef_rm_cmp5_2 m ca kc bd kd cc0 cc1) ?_
 show Rch p e below s₁ (mkF m 0 #[vR ca, vI 0, vR bd, vI 0, vI 2, U, U] []) _
 refine w_iconst (pc' := 1) (v := 0) X0 hx hby d23_0 rfl rfl ?_
 refine w_istore (pc' := 3) (l' := #[vR ca, vI 0, vR bd, vI 0, vI 2, vI 0, U]) X0 hx hby d23_1 rfl rfl ?_
 refine w_iload (pc' := 5) X0 hx hby d23_3 rfl rfl ?_
 refine w_iload (pc' := 7) X0 hx hby d23_5 rfl rfl ?_
 refine w_icmpNo (pc' := 10) X0 hx hby d23_7 (XT.ii_ge_f (by decide)) rfl ?_
 refine w_aloadN (pc' := 11) X0 hx hby d23_10 rfl rfl rfl ?_
 refine w_iloadN (pc' := 12) X0 hx hby d23_11 rfl rfl ?_
 refine Rch.st (fun _ k => own_ldC X0 hx hZ e0 f0 (j := (0 : Int32)) ⟨by decide, by decide⟩ (by rfl) rfl rfl (hb hby d23_12) k) ?_
 show Rch p e below s₁ (mkF m 13 #[vR ca, vI 0, vR bd, vI 0, vI 2, vI 0, U] [(.int cc0)]) _
 refine w_istore (pc' := 15) (l' := #[vR ca, vI 0, vR bd, vI 0, vI 2, vI 0, vI cc0]) X0 hx hby d23_13 rfl rfl ?_
 refine w_iload (pc' := 17) X0 hx hby d23_15 rfl rfl ?_
 refine w_sipush (pc' := 20) (v := 255) X0 hx hby d23_17 rfl rfl ?_
 refine w_icmpYes (pc' := 26) X0 hx hby d23_20 (XT.ii_le_t (hg0)) (by decide) ?_
 refine w_aloadN (pc' := 27) X0 hx hby d23_26 rfl rfl rfl ?_
 refine w_iloadN (pc' := 28) X0 hx hby d23_27 rfl rfl ?_
 refine w_iload (pc' := 30) X0 hx hby d23_28 rfl rfl ?_
 refine w_i2b (pc' := 31) X0 hx hby d23_30 rfl ?_
 obtain ⟨T265, h265, X265, e265, W265, V265, st265⟩ := own_stB X0 hx hZ e0 f1 (j := (0 : Int32)) ⟨by decide, by decide⟩ 0 (by decide) (by decide : 0 < 2) (g := (mkF m 31 #[vR ca, vI 0, vR bd, vI 0, vI 2, vI 0, vI cc0] [(.int (cc0).toInt8.toInt32), (.int 0), (.ref bd)])) rfl rfl (hb hby d23_31)
 have N266 := Fr.snoc X265 N0 gd
 have f267 := f0.other W265 ncd
 have Kp269 : Keep h0 h265 [bd] := K00.wr W265 (Or.inl (List.mem_of_getElem? (i := 0) rfl))
 have f270 : Arv Z h265 bd kd .byte (2 : Int32) [(.int ((cc0).toInt8.toInt32).toInt8.toInt32), (.int (0 : Int32))] (.int (0 : Int32)) := V265
 refine Rch.st (fun _ k => st265 _ k) ?_
 show Rch p e below T265 (mkF m 32 #[vR ca, vI 0, vR bd, vI 0, vI 2, vI 0, vI cc0] []) _
 refine w_iinc (pc' := 35) (w := (1 : Int32)) (l' := #[vR ca, vI 1, vR bd, vI 0, vI 2, vI 0, vI cc0]) X265 hx hby d23_32 rfl (by decide) rfl rfl ?_
 refine w_iinc (pc' := 38) (w := (1 : Int32)) (l' := #[vR ca, vI 1, vR bd, vI 1, vI 2, vI 0, vI cc0]) X265 hx hby d23_35 rfl (by decide) rfl rfl ?_
 refine w_iinc (pc' := 41) (w := (1 : Int32)) (l' := #[vR ca, vI 1, vR bd, vI 1, vI 2, vI 1, vI cc0]) X265 hx hby d23_38 rfl (by decide) rfl rfl ?_
 refine w_goto (pc' := 3) X265 hx hby d23_41 (by decide) ?_
 refine w_iload (pc' := 5) X265 hx hby d23_3 rfl rfl ?_
 refine w_iload (pc' := 7) X265 hx hby d23_5 rfl rfl ?_
 refine w_icmpNo (pc' := 10) X265 hx hby d23_7 (XT.ii_ge_f (by decide)) rfl ?_
 refine w_aloadN (pc' := 11) X265 hx hby d23_10 rfl rfl rfl ?_
 refine w_iloadN (pc' := 12) X265 hx hby d23_11 rfl rfl ?_
 refine Rch.st (fun _ k => own_ldC X265 hx hZ e265 f267 (j := (1 : Int32)) ⟨by decide, by decide⟩ (by rfl) rfl rfl (hb hby d23_12) k) ?_
 show Rch p e below T265 (mkF m 13 #[vR ca, vI 1, vR bd, vI 1, vI 2, vI 1, vI cc0] [(.int cc1)]) _
 refine w_istore (pc' := 15) (l' := #[vR ca, vI 1, vR bd, vI 1, vI 2, vI 1, vI cc1]) X265 hx hby d23_13 rfl rfl ?_
 refine w_iload (pc' := 17) X265 hx hby d23_15 rfl rfl ?_
 refine w_sipush (pc' := 20) (v := 255) X265 hx hby d23_17 rfl rfl ?_
 refine w_icmpYes (pc' := 26) X265 hx hby d23_20 (XT.ii_le_t (hg1)) (by decide) ?_
 refine w_aloadN (pc' := 27) X265 hx hby d23_26 rfl rfl rfl ?_
 refine w_iloadN (pc' := 28) X265 hx hby d23_27 rfl rfl ?_
 refine w_iload (pc' := 30) X265 hx hby d23_28 rfl rfl ?_
 refine w_i2b (pc' := 31) X265 hx hby d23_30 rfl ?_
 obtain ⟨T271, h271, X271, e271, W271, V271, st271⟩ := own_stB X265 hx hZ e265 f270 (j := (1 : Int32)) ⟨by decide, by decide⟩ 1 (by decide) (by decide : 1 < 2) (g := (mkF m 31 #[vR ca, vI 1, vR bd, vI 1, vI 2, vI 1, vI cc1] [(.int (cc1).toInt8.toInt32), (.int 1), (.ref bd)])) rfl rfl (hb hby d23_31)
 have N272 := Fr.snoc X271 N266 gd
 have Kp275 : Keep h0 h271 [bd] := Kp269.wr W271 (Or.inl (List.mem_of_getElem? (i := 0) rfl))
 have f276 : Arv Z h271 bd kd .byte (2 : Int32) [(.int ((cc0).toInt8.toInt32).toInt8.toInt32), (.int ((cc1).toInt8.toInt32).toInt8.toInt32)] (.int (0 : Int32)) := V271
 refine Rch.st (fun _ k => st271 _ k) ?_
 show Rch p e below T271 (mkF m 32 #[vR ca, vI 1, vR bd, vI 1, vI 2, vI 1, vI cc1] []) _
 refine w_iinc (pc' := 35) (w := (2 : Int32)) (l' := #[vR ca, vI 2, vR bd, vI 1, vI 2, vI 1, vI cc1]) X271 hx hby d23_32 rfl (by decide) rfl rfl ?_
 refine w_iinc (pc' := 38) (w := (2 : Int32)) (l' := #[vR ca, vI 2, vR bd, vI 2, vI 2, vI 1, vI cc1]) X271 hx hby d23_35 rfl (by decide) rfl rfl ?_
 refine w_iinc (pc' := 41) (w := (2 : Int32)) (l' := #[vR ca, vI 2, vR bd, vI 2, vI 2, vI 2, vI cc1]) X271 hx hby d23_38 rfl (by decide) rfl rfl ?_
 refine w_goto (pc' := 3) X271 hx hby d23_41 (by decide) ?_
 refine w_iload (pc' := 5) X271 hx hby d23_3 rfl rfl ?_
 refine w_iload (pc' := 7) X271 hx hby d23_5 rfl rfl ?_
 refine w_icmpYes (pc' := 44) X271 hx hby d23_7 (XT.ii_ge_t (by decide)) (by decide) ?_
 refine w_iload (pc' := 46) X271 hx hby d23_44 rfl rfl ?_
 exact Rch.retV X271 hx Bd.returns rfl (Or.inl ⟨rfl, by simp, _, rfl⟩) (hb hby d23_46) (by rw [e271]; exact ⟨rfl, N272, Kp275, f276⟩) (by decide) (by decide)

abbrev c24 : ByteArray := jdk_52_method_16_code
theorem d24_0 : decode c24 0 = .ok (.iload_n 2, 1) := by decide +kernel
theorem d24_1 : decode c24 1 = .ok (.newarray .byte, 2) := by decide +kernel
theorem d24_3 : decode c24 3 = .ok (.astore_n 3, 1) := by decide +kernel
theorem d24_4 : decode c24 4 = .ok (.aload_n 0, 1) := by decide +kernel
theorem d24_5 : decode c24 5 = .ok (.iload_n 1, 1) := by decide +kernel
theorem d24_6 : decode c24 6 = .ok (.aload_n 3, 1) := by decide +kernel
theorem d24_7 : decode c24 7 = .ok (.iconst 0, 1) := by decide +kernel
theorem d24_8 : decode c24 8 = .ok (.iload_n 2, 1) := by decide +kernel
theorem d24_9 : decode c24 9 = .ok (.invokestatic 115, 3) := by decide +kernel
theorem d24_12 : decode c24 12 = .ok (.istore 4, 2) := by decide +kernel
theorem d24_14 : decode c24 14 = .ok (.iload 4, 2) := by decide +kernel
theorem d24_16 : decode c24 16 = .ok (.iload_n 2, 1) := by decide +kernel
theorem d24_17 : decode c24 17 = .ok (.if_icmp .eq 40, 3) := by decide +kernel
theorem d24_57 : decode c24 57 = .ok (.aload_n 3, 1) := by decide +kernel
theorem d24_58 : decode c24 58 = .ok (.areturn, 1) := by decide +kernel
theorem ef_rm_cmp3E (m : MethodId) (ca : Addr) (kc : ClassId) (cc0 : Int32) (cc1 : Int32)  : entryFrame m #[(.ref ca), (.int (0 : Int32)), (.int (2 : Int32))] 6 = mkF m 0 #[vR ca, vI 0, vI 2, U, U, U] [] := by  first | (simp [entryFrame, mkF, argsToLocals, Value.category, maxLocals]; done) | rfl
def Q_rm_cmp3E (Z : State) (ca : Addr) (kc : ClassId) (cc0 : Int32) (cc1 : Int32) (h0 : Heap) (n0 : Nat) (v : Option Value) (h : Heap) (L : List Loc) : Prop := ∃ (t : Addr) (kt : ClassId), (v = some (.ref t)) ∧ (Fr n0 L) ∧ (Keep h0 h []) ∧ (h0.size ≤ t) ∧ (Arv Z h t kt .byte (2 : Int32) [(.int (own_by cc0)), (.int (own_by cc1))] (.int (0 : Int32))) ∧ (Exa Z h t "[B")
theorem pd___CI_BII_I : parseMethodDescriptor "([CI[BII)I" = some ⟨[(.array .char), .int, (.array .byte), .int, .int], (some .int)⟩ := by decide +kernel
set_option maxRecDepth 65536 in
set_option maxHeartbeats 40000000 in
theorem rm_cmp3E (l : Launch) (Z : State) (a0 : Array Value) (hw : ∀ d ∈ tables_1, d.before a0 Z = true) (ws : List Jvm.Cond) (ca : Addr) (kc : ClassId) (cc0 : Int32) (cc1 : Int32) (h0 : Heap) (n0 : Nat) (Z0 : n0 ≤ h0.size) (f0 : Arv Z h0 ca kc .char (2 : Int32) [(.int cc0), (.int cc1)] (.int (0 : Int32))) (hg0 : ¬ (255 : Int32) < cc0) (hg1 : ¬ (255 : Int32) < cc1) :
    MetN l Z y_26 c24 6 (some (.array .byte)) ws (Rm 1 1 2 18) #[(.ref ca), (.int (0 : Int32)), (.int (2 : Int32))] h0 (Q_rm_cmp3E Z ca kc cc0 cc1 h0 n0) := by
 refine MetFree.of_bodySF (plainFor_of_name pn_java_lang_StringUTF16) hisR ?_
 intro p e s m args below meth c s₁ Bd hml0 hP hK
 obtain ⟨rfl, hZ, hh⟩ := hP
 have hx := Bd.exec
 have hby := Bd.bytes
 have hml : c.maxLocals = 6 := hml0
 have hown : s.vm.findClass "java/lang/StringUTF16" = some m.cls := findClass_of_methodNamed Bd.named
 have X0 : Stand p l e (Rm 1 1 2 18) s m #[(.ref ca), (.int (0 : Int32)), (.int (2 : Int32))] below meth c s₁ [] 0 0 := Stand.of_body Bd
 have e0 : s₁.heap = h0 := by rw [← hh, Bd.state]; rfl
 have N0 := Fr.nil n0
 have K00 : Keep h0 h0 [] := Keep.refl _ _
 show Rch p e below s₁ (entryFrame m #[(.ref ca), (.int (0 : Int32)), (.int (2 : Int32))] 6) (FinP s (Q_rm_cmp3E Z ca kc cc0 cc1 h0 n0) 1 2)
 refine Rch.cast (ef_rm_cmp3E m ca kc cc0 cc1) ?_
 show Rch p e below s₁ (mkF m 0 #[vR ca, vI 0, vI 2, U, U, U] []) _
 refine w_iloadN (pc' := 1) X0 hx hby d24_0 rfl rfl ?_
 obtain ⟨T277, h277, kc277, X277, e277, E277, A277, Ex277, st277⟩ := newPE X0 hx hZ (wi hw 23 rfl) e0 (g := (mkF m 1 #[vR ca, vI 0, vI 2, U, U, U] [(.int 2)])) rfl (hb hby d24_1) rfl (by decide : ¬ ((2 : Int32) < (0 : Int32))) (cap := 2) (by decide : (2 : Int32).toNatClampNeg ≤ 2) (by decide) (by decide) (by decide) (ad := "[B") (by decide)
 obtain ⟨a277, g277⟩ : ∃ z, z = h0.size := ⟨_, rfl⟩
 rw [← g277] at A277 Ex277 st277
 have ne278 : ca ≠ a277 := by rw [g277]; exact Nat.ne_of_lt f0.lt
 have ge279 : n0 ≤ a277 := Nat.le_trans Z0 (Nat.le_of_eq g277.symm)
 have f281 := f0.ext E277
 have Z282 := Nat.le_trans Z0 E277.1
 have Kp283 : Keep h0 h277 [] := K00.ext E277
 have f284 : Arv Z h277 a277 kc277 .byte (2 : Int32) [(.int (0 : Int32)), (.int (0 : Int32))] (.int (0 : Int32)) := (Arv.new A277 (by decide : ¬ ((2 : Int32) < (0 : Int32)))).pad (pad_rep [] (.int (0 : Int32)) 2)
 refine Rch.st (fun _ k => st277 _ k) ?_
 show Rch p e below T277 (mkF m 3 #[vR ca, vI 0, vI 2, U, U, U] [(.ref a277)]) _
 refine w_astoreN (pc' := 4) (l' := #[vR ca, vI 0, vI 2, vR a277, U, U]) X277 hx hby d24_3 rfl rfl rfl ?_
 refine w_aloadN (pc' := 5) X277 hx hby d24_4 rfl rfl rfl ?_
 refine w_iloadN (pc' := 6) X277 hx hby d24_5 rfl rfl ?_
 refine w_aloadN (pc' := 7) X277 hx hby d24_6 rfl rfl rfl ?_
 refine w_iconst (pc' := 8) (v := 0) X277 hx hby d24_7 rfl rfl ?_
 refine w_iloadN (pc' := 9) X277 hx hby d24_8 rfl rfl ?_
 obtain ⟨_, _, ⟨T285, L285, k285, n285⟩, -, X285, ⟨Lc285, hQ285, l285, y285, z285⟩, st285⟩ := Jvm.LawKit.callS X277 hx (y := y_25) hown (mvT hZ (wi hw 24 rfl)) (mvT hZ (wi hw 25 rfl)) (mvT hZ (wi hw 21 rfl)) (mvT hZ (wi hw 26 rfl)) (by decide) (backOf (W := 0) (rm_cmp5_2 l Z a0 hw [] ca kc a277 kc277 cc0 cc1 h277 n0 Z282 f281 f284 (ge279) (ne278) (hg0) (hg1)) hZ (wi hw 26 rfl) (wi hw 21 rfl) (by decide) (by decide)) (g := (mkF m 9 #[vR ca, vI 0, vI 2, vR a277, U, U] [(.int 2), (.int 0), (.ref a277), (.int 0), (.ref ca)])) rfl (by rw [hml]; rfl) (argsL := [(.ref ca), (.int 0), (.ref a277), (.int 0), (.int 2)]) (rest := []) (lenOf pd___CI_BII_I rfl) rfl (by show 2 * 0 + _ ≤ _; exact Nat.le_of_eq rfl) (hb hby d24_9) (fun _ _ => ⟨rfl, e277, (by decide : 1 + 0 ≤ _), (by decide : 2 + 0 ≤ _)⟩)
 dsimp only [Pt.U, Pt.locs, Pt.cells, Pt.slots] at X285 l285 y285 z285 st285 hQ285
 subst l285 y285 z285
 obtain ⟨rfl, NQ285, K285, fq285_0⟩ := hQ285
 have N286 := Fr.app N0 NQ285
 have f288 := Ex277.keep K285
 have Kp289 : Keep h0 T285.heap [] := Kp283.trans K285 (allS (Or.inr (Nat.le_trans K00.1 (Nat.le_of_eq g277.symm))) all0)
 refine Rch.st (fun _ k => st285 _ k) ?_
 show Rch p e below T285 (mkF m 12 #[vR ca, vI 0, vI 2, vR a277, U, U] [(.int 2)]) _
 refine w_istore (pc' := 14) (l' := #[vR ca, vI 0, vI 2, vR a277, vI 2, U]) X285 hx hby d24_12 rfl rfl ?_
 refine w_iload (pc' := 16) X285 hx hby d24_14 rfl rfl ?_
 refine w_iloadN (pc' := 17) X285 hx hby d24_16 rfl rfl ?_
 refine w_icmpYes (pc' := 57) X285 hx hby d24_17 (XT.ii_eq_t (rfl)) (by decide) ?_
 refine w_aloadN (pc' := 58) X285 hx hby d24_57 rfl rfl rfl ?_
 exact Rch.retV X285 hx Bd.returns rfl (Or.inr (Or.inr (Or.inr (Or.inr ⟨rfl, rfl, rfl⟩)))) (hb hby d24_58) (by rw [(rfl : T285.heap = T285.heap)]; exact ⟨a277, kc277, rfl, N286, Kp289, (Nat.le_trans K00.1 (Nat.le_of_eq g277.symm)), fq285_0, f288⟩) (by decide) (by decide)

abbrev c25 : ByteArray := jdk_42_method_149_code
theorem d25_0 : decode c25 0 = .ok (.aload_n 0, 1) := by decide +kernel
theorem d25_1 : decode c25 1 = .ok (.invokespecial 1, 3) := by decide +kernel
theorem d25_4 : decode c25 4 = .ok (.iload_n 3, 1) := by decide +kernel
theorem d25_5 : decode c25 5 = .ok (.ifCond .ne 22, 3) := by decide +kernel
theorem d25_27 : decode c25 27 = .ok (.getstatic 38, 3) := by decide +kernel
theorem d25_30 : decode c25 30 = .ok (.ifCond .eq 28, 3) := by decide +kernel
theorem d25_33 : decode c25 33 = .ok (.aload_n 1, 1) := by decide +kernel
theorem d25_34 : decode c25 34 = .ok (.iload_n 2, 1) := by decide +kernel
theorem d25_35 : decode c25 35 = .ok (.iload_n 3, 1) := by decide +kernel
theorem d25_36 : decode c25 36 = .ok (.invokestatic 177, 3) := by decide +kernel
theorem d25_39 : decode c25 39 = .ok (.astore 5, 2) := by decide +kernel
theorem d25_41 : decode c25 41 = .ok (.aload_n 0, 1) := by decide +kernel
theorem d25_42 : decode c25 42 = .ok (.aload 5, 2) := by decide +kernel
theorem d25_44 : decode c25 44 = .ok (.iload_n 3, 1) := by decide +kernel
theorem d25_45 : decode c25 45 = .ok (.invokestatic 47, 3) := by decide +kernel
theorem d25_48 : decode c25 48 = .ok (.putfield 15, 3) := by decide +kernel
theorem d25_51 : decode c25 51 = .ok (.aload_n 0, 1) := by decide +kernel
theorem d25_52 : decode c25 52 = .ok (.aload 5, 2) := by decide +kernel
theorem d25_54 : decode c25 54 = .ok (.putfield 9, 3) := by decide +kernel
theorem d25_57 : decode c25 57 = .ok (.return_, 1) := by decide +kernel
theorem ef_rm_init4E (m : MethodId) (G1 : Int32) (a5 : Addr) (ca : Addr) (kc : ClassId) (cc0 : Int32) (cc1 : Int32)  : entryFrame m #[(.ref a5), (.ref ca), (.int (0 : Int32)), (.int (2 : Int32)), .null] 6 = mkF m 0 #[vR a5, vR ca, vI 0, vI 2, vN, U] [] := by  first | (simp [entryFrame, mkF, argsToLocals, Value.category, maxLocals]; done) | rfl
def Q_rm_init4E (Z : State) (G1 : Int32) (a5 : Addr) (ca : Addr) (kc : ClassId) (cc0 : Int32) (cc1 : Int32) (h0 : Heap) (n0 : Nat) (v : Option Value) (h : Heap) (L : List Loc) : Prop := ∃ (t : Addr) (kt : ClassId), (v = none) ∧ (Fr n0 L) ∧ (Keep h0 h [a5]) ∧ (h0.size ≤ t) ∧ (Fld Z h a5 "java/lang/String" "coder" "B" (.int (0 : Int32))) ∧ (Fld Z h a5 "java/lang/String" "value" "[B" (.ref t)) ∧ (Fld Z h a5 "java/lang/String" "hash" "I" (.int (0 : Int32))) ∧ (Fld Z h a5 "java/lang/String" "hashIsZero" "Z" (.int (0 : Int32))) ∧ (Arv Z h t kt .byte (2 : Int32) [(.int (own_by cc0)), (.int (own_by cc1))] (.int (0 : Int32))) ∧ (Exa Z h t "[B")
theorem pd___CII__B : parseMethodDescriptor "([CII)[B" = some ⟨[(.array .char), .int, .int], (some (.array .byte))⟩ := by decide +kernel
theorem pd___BI_B : parseMethodDescriptor "([BI)B" = some ⟨[(.array .byte), .int], (some .byte)⟩ := by decide +kernel
set_option maxRecDepth 65536 in
set_option maxHeartbeats 40000000 in
theorem rm_init4E (l : Launch) (Z : State) (a0 : Array Value) (hw : ∀ d ∈ tables_1, d.before a0 Z = true) (ws : List Jvm.Cond) (G1 : Int32) (a5 : Addr) (ca : Addr) (kc : ClassId) (cc0 : Int32) (cc1 : Int32) (h0 : Heap) (n0 : Nat) (Z0 : n0 ≤ h0.size) (O2 : Sta Z Z.heap "java/lang/String" "COMPACT_STRINGS" "Z" (.int G1)) (P5 : ¬ G1 = 0) (f2 : Exa Z h0 a5 "java/lang/String") (f3 : Fld Z h0 a5 "java/lang/String" "coder" "B" (.int (0 : Int32))) (f4 : Fld Z h0 a5 "java/lang/String" "value" "[B" .null) (f5 : Fld Z h0 a5 "java/lang/String" "hash" "I" (.int (0 : Int32))) (f6 : Fld Z h0 a5 "java/lang/String" "hashIsZero" "Z" (.int (0 : Int32))) (f7 : Arv Z h0 ca kc .char (2 : Int32) [(.int cc0), (.int cc1)] (.int (0 : Int32))) (ga : n0 ≤ a5) (nca : a5 ≠ ca) (hg0 : ¬ (255 : Int32) < cc0) (hg1 : ¬ (255 : Int32) < cc1) (Old0 : OldL Z n0 h0) :
    MetN l Z y_27 c25 6 none ws (Rm 2 1 2 35) #[(.ref a5), (.ref ca), (.int (0 : Int32)), (.int (2 : Int32)), .null] h0 (Q_rm_init4E Z G1 a5 ca kc cc0 cc1 h0 n0) := by
 refine MetFree.of_bodySF (plainFor_of_name pn_java_lang_String) hisR ?_
 intro p e s m args below meth c s₁ Bd hml0 hP hK
 obtain ⟨rfl, hZ, hh⟩ := hP
 have hx := Bd.exec
 have hby := Bd.bytes
 have hml : c.maxLocals = 6 := hml0
 have hown : s.vm.findClass "java/lang/String" = some m.cls := findClass_of_methodNamed Bd.named
 have hnm := (name_of_methodNamed Bd.named Bd.method).1
 have X0 : Stand p l e (Rm 2 1 2 35) s m #[(.ref a5), (.ref ca), (.int (0 : Int32)), (.int (2 : Int32)), .null] below meth c s₁ [] 0 0 := Stand.of_body Bd
 have e0 : s₁.heap = h0 := by rw [← hh, Bd.state]; rfl
 have N0 := Fr.nil n0
 have K00 : Keep h0 h0 [a5] := Keep.refl _ _
 show Rch p e below s₁ (entryFrame m #[(.ref a5), (.ref ca), (.int (0 : Int32)), (.int (2 : Int32)), .null] 6) (FinP s (Q_rm_init4E Z G1 a5 ca kc cc0 cc1 h0 n0) 1 2)
 refine Rch.cast (ef_rm_init4E m G1 a5 ca kc cc0 cc1) ?_
 show Rch p e below s₁ (mkF m 0 #[vR a5, vR ca, vI 0, vI 2, vN, U] []) _
 refine w_aloadN (pc' := 1) X0 hx hby d25_0 rfl rfl rfl ?_
 obtain ⟨T291, X291, e291, st291⟩ := initO X0 hx hZ hown (wi hw 15 rfl) (wi hw 16 rfl) (wi hw 17 rfl) e0 (g := (mkF m 1 #[vR a5, vR ca, vI 0, vI 2, vN, U] [(.ref a5)])) rfl (by rw [hml]; rfl) rfl (hb hby d25_1) (by decide) (W := 0) (by show 2 * 0 + _ ≤ _; exact Nat.le_of_eq rfl) (by decide)
 refine Rch.st (fun _ k => st291 _ k) ?_
 show Rch p e below T291 (mkF m 4 #[vR a5, vR ca, vI 0, vI 2, vN, U] []) _
 refine w_iloadN (pc' := 5) X291 hx hby d25_4 rfl rfl ?_
 refine w_ifYes (pc' := 27) X291 hx hby d25_5 (XT.i0_ne_t (by decide)) (by decide) ?_
 obtain ⟨T292, X292, e292, st292⟩ := getS X291 hx hZ hown (host := "") (wi hw 18 rfl) Via.refl e291 (O2.ext Old0.2) (g := (mkF m 27 #[vR a5, vR ca, vI 0, vI 2, vN, U] [])) rfl (hb hby d25_27)
 refine Rch.st (fun _ k => st292 _ k) ?_
 show Rch p e below T292 (mkF m 30 #[vR a5, vR ca, vI 0, vI 2, vN, U] [(.int G1)]) _
 refine w_ifNo (pc' := 33) X292 hx hby d25_30 (XT.i0_eq_f (P5)) rfl ?_
 refine w_aloadN (pc' := 34) X292 hx hby d25_33 rfl rfl rfl ?_
 refine w_iloadN (pc' := 35) X292 hx hby d25_34 rfl rfl ?_
 refine w_iloadN (pc' := 36) X292 hx hby d25_35 rfl rfl ?_
 obtain ⟨_, _, ⟨T293, L293, k293, n293⟩, -, X293, ⟨Lc293, hQ293, l293, y293, z293⟩, st293⟩ := Jvm.LawKit.callS X292 hx (y := y_26) hown (mvT hZ (wi hw 19 rfl)) (mvT hZ (wi hw 20 rfl)) (mvT hZ (wi hw 21 rfl)) (mvT hZ (wi hw 22 rfl)) (by decide) (backOf (W := 0) (rm_cmp3E l Z a0 hw [] ca kc cc0 cc1 h0 n0 Z0 f7 (hg0) (hg1)) hZ (wi hw 22 rfl) (wi hw 21 rfl) (by decide) (by decide)) (g := (mkF m 36 #[vR a5, vR ca, vI 0, vI 2, vN, U] [(.int 2), (.int 0), (.ref ca)])) rfl (by rw [hml]; rfl) (argsL := [(.ref ca), (.int 0), (.int 2)]) (rest := []) (lenOf pd___CII__B rfl) rfl (by show 2 * 0 + _ ≤ _; exact Nat.le_of_eq rfl) (hb hby d25_36) (fun _ _ => ⟨rfl, e292, (by decide : 0 + 1 ≤ _), (by decide : 0 + 2 ≤ _)⟩)
 dsimp only [Pt.U, Pt.locs, Pt.cells, Pt.slots] at X293 l293 y293 z293 st293 hQ293
 subst l293 y293 z293
 obtain ⟨t_293, kt_293, rfl, NQ293, K293, pq293_0, fq293_0, fq293_1⟩ := hQ293
 have N294 := Fr.app N0 NQ293
 have ne295 := nlt f2.lt pq293_0
 have f298 := f2.keep K293
 have f299 := f3.keep K293 nin0
 have f300 := f4.keep K293 nin0
 have f301 := f5.keep K293 nin0
 have f302 := f6.keep K293 nin0
 have Kp305 : Keep h0 T293.heap [a5] := K00.trans K293 all0
 have Z306 := Nat.le_trans Z0 K293.1
 refine Rch.st (fun _ k => st293 _ k) ?_
 show Rch p e below T293 (mkF m 39 #[vR a5, vR ca, vI 0, vI 2, vN, U] [(.ref t_293)]) _
 refine w_astore (pc' := 41) (l' := #[vR a5, vR ca, vI 0, vI 2, vN, vR t_293]) X293 hx hby d25_39 rfl rfl rfl ?_
 refine w_aloadN (pc' := 42) X293 hx hby d25_41 rfl rfl rfl ?_
 refine w_aload (pc' := 44) X293 hx hby d25_42 rfl rfl rfl ?_
 refine w_iloadN (pc' := 45) X293 hx hby d25_44 rfl rfl ?_
 obtain ⟨_, _, ⟨T307, L307, k307, n307⟩, -, X307, ⟨Lc307, hQ307, l307, y307, z307⟩, st307⟩ := Jvm.LawKit.callS X293 hx (y := y_4) hown (mvT hZ (wi hw 27 rfl)) (mvT hZ (wi hw 28 rfl)) (mvT hZ (wi hw 21 rfl)) (mvT hZ (wi hw 29 rfl)) (by decide) (backOf (W := 1) (rm_cfl l Z a0 hw [] t_293 kt_293 2 2 ([(.int (own_by cc0)), (.int (own_by cc1))]) (.int 0) T293.heap n0 Z306 fq293_0) hZ (wi hw 29 rfl) (wi hw 21 rfl) (by decide) (by decide)) (g := (mkF m 45 #[vR a5, vR ca, vI 0, vI 2, vN, vR t_293] [(.int 2), (.ref t_293), (.ref a5)])) rfl (by rw [hml]; rfl) (argsL := [(.ref t_293), (.int 2)]) (rest := [(.ref a5)]) (lenOf pd___BI_B rfl) rfl (by show 2 * 0 + _ ≤ _; exact Nat.le_of_eq rfl) (hb hby d25_45) (fun _ _ => ⟨rfl, (rfl : T293.heap = T293.heap), (by decide : 1 + 0 ≤ _), (by decide : 2 + 0 ≤ _)⟩)
 dsimp only [Pt.U, Pt.locs, Pt.cells, Pt.slots] at X307 l307 y307 z307 st307 hQ307
 subst l307 y307 z307
 obtain ⟨rfl, NQ307, K307⟩ := hQ307
 have N308 := Fr.app N294 NQ307
 refine Rch.st (fun _ k => st307 _ k) ?_
 show Rch p e below T307 (mkF m 48 #[vR a5, vR ca, vI 0, vI 2, vN, vR t_293] [(.int ((XT.ushr ((2 : Int32) - (2 : Int32)) (31 : Int32))).toInt8.toInt32), (.ref a5)]) _
 have r309 : ((XT.ushr ((2 : Int32) - (2 : Int32)) (31 : Int32))).toInt8.toInt32 = (0 : Int32) := by decide
 rw [r309]
 show Rch p e below T307 (mkF m 48 #[vR a5, vR ca, vI 0, vI 2, vN, vR t_293] [(.int 0), (.ref a5)]) _
 obtain ⟨T310, h310, X310, e310, W310, st310⟩ := putF X307 hx hZ hown (host := "") (Or.inl (wi hw 30 rfl)) Via.refl K307 f299 f298 (Or.inr ⟨(wi hw 31 rfl), rfl, hnm⟩) (wi hw 6 rfl) (ty := .byte) (by decide) rfl rfl (g := (mkF m 48 #[vR a5, vR ca, vI 0, vI 2, vN, vR t_293] [(.int 0), (.ref a5)])) rfl rfl (hb hby d25_48)
 have N311 := Fr.snoc X310 N308 ga
 have f312 := f298.wr W310
 have f313 := f299.same W310
 have f314 := f300.other W310 (Or.inr (slot_ne (t := (.array .byte)) (t' := .byte) (Or.inr (wi hw 33 rfl)) (Or.inr (wi hw 31 rfl)) (by decide) (by decide) (by decide)))
 have f315 := f301.other W310 (Or.inr (slot_ne (t := .int) (t' := .byte) (Or.inl (wi hw 156 rfl)) (Or.inr (wi hw 31 rfl)) (by decide) (by decide) (by decide)))
 have f316 := f302.other W310 (Or.inr (slot_ne (t := .boolean) (t' := .byte) (Or.inl (wi hw 158 rfl)) (Or.inr (wi hw 31 rfl)) (by decide) (by decide) (by decide)))
 have f318 := fq293_0.other W310 (Ne.symm ne295)
 have f319 := fq293_1.wr W310
 have Kp322 : Keep h0 h310 [a5] := Kp305.wr W310 (Or.inl (List.mem_of_getElem? (i := 0) rfl))
 refine Rch.st (fun _ k => st310 _ k) ?_
 show Rch p e below T310 (mkF m 51 #[vR a5, vR ca, vI 0, vI 2, vN, vR t_293] []) _
 refine w_aloadN (pc' := 52) X310 hx hby d25_51 rfl rfl rfl ?_
 refine w_aload (pc' := 54) X310 hx hby d25_52 rfl rfl rfl ?_
 obtain ⟨T323, h323, X323, e323, W323, st323⟩ := putF X310 hx hZ hown (host := "") (Or.inl (wi hw 32 rfl)) Via.refl e310 f314 f312 (Or.inr ⟨(wi hw 33 rfl), rfl, hnm⟩) (wi hw 6 rfl) (ty := (.array .byte)) (by decide) rfl rfl (g := (mkF m 54 #[vR a5, vR ca, vI 0, vI 2, vN, vR t_293] [(.ref t_293), (.ref a5)])) rfl rfl (hb hby d25_54)
 have N324 := Fr.snoc X323 N311 ga
 have f326 := f313.other W323 (Or.inr (slot_ne (t := .byte) (t' := (.array .byte)) (Or.inr (wi hw 31 rfl)) (Or.inr (wi hw 33 rfl)) (by decide) (by decide) (by decide)))
 have f327 := f314.same W323
 have f328 := f315.other W323 (Or.inr (slot_ne (t := .int) (t' := (.array .byte)) (Or.inl (wi hw 156 rfl)) (Or.inr (wi hw 33 rfl)) (by decide) (by decide) (by decide)))
 have f329 := f316.other W323 (Or.inr (slot_ne (t := .boolean) (t' := (.array .byte)) (Or.inl (wi hw 158 rfl)) (Or.inr (wi hw 33 rfl)) (by decide) (by decide) (by decide)))
 have f331 := f318.other W323 (Ne.symm ne295)
 have f332 := f319.wr W323
 have Kp335 : Keep h0 h323 [a5] := Kp322.wr W323 (Or.inl (List.mem_of_getElem? (i := 0) rfl))
 refine Rch.st (fun _ k => st323 _ k) ?_
 show Rch p e below T323 (mkF m 57 #[vR a5, vR ca, vI 0, vI 2, vN, vR t_293] []) _
 exact Rch.ret0 X323 hx Bd.returns (hb hby d25_57) (by rw [e323]; exact ⟨t_293, kt_293, rfl, N324, Kp335, (Nat.le_trans K00.1 pq293_0), f326, f327, f328, f329, f331, f332⟩) (by decide) (by decide)

abbrev c26 : ByteArray := jdk_42_method_3_code
theorem d26_0 : decode c26 0 = .ok (.aload_n 0, 1) := by decide +kernel
theorem d26_1 : decode c26 1 = .ok (.aload_n 1, 1) := by decide +kernel
theorem d26_2 : decode c26 2 = .ok (.iconst 0, 1) := by decide +kernel
theorem d26_3 : decode c26 3 = .ok (.aload_n 1, 1) := by decide +kernel
theorem d26_4 : decode c26 4 = .ok (.arraylength, 1) := by decide +kernel
theorem d26_5 : decode c26 5 = .ok (.aconst_null, 1) := by decide +kernel
theorem d26_6 : decode c26 6 = .ok (.invokespecial 27, 3) := by decide +kernel
theorem d26_9 : decode c26 9 = .ok (.return_, 1) := by decide +kernel
theorem ef_rm_init1E (m : MethodId) (G1 : Int32) (a5 : Addr) (ca : Addr) (kc : ClassId) (cc0 : Int32) (cc1 : Int32)  : entryFrame m #[(.ref a5), (.ref ca)] 2 = mkF m 0 #[vR a5, vR ca] [] := by  first | (simp [entryFrame, mkF, argsToLocals, Value.category, maxLocals]; done) | rfl
def Q_rm_init1E (Z : State) (G1 : Int32) (a5 : Addr) (ca : Addr) (kc : ClassId) (cc0 : Int32) (cc1 : Int32) (h0 : Heap) (n0 : Nat) (v : Option Value) (h : Heap) (L : List Loc) : Prop := ∃ (t : Addr) (kt : ClassId), (v = none) ∧ (Fr n0 L) ∧ (Keep h0 h [a5]) ∧ (h0.size ≤ t) ∧ (Fld Z h a5 "java/lang/String" "coder" "B" (.int (0 : Int32))) ∧ (Fld Z h a5 "java/lang/String" "value" "[B" (.ref t)) ∧ (Fld Z h a5 "java/lang/String" "hash" "I" (.int (0 : Int32))) ∧ (Fld Z h a5 "java/lang/String" "hashIsZero" "Z" (.int (0 : Int32))) ∧ (Arv Z h t kt .byte (2 : Int32) [(.int (own_by cc0)), (.int (own_by cc1))] (.int (0 : Int32))) ∧ (Exa Z h t "[B")
theorem pd___CIILjava_lang_Void__V : parseMethodDescriptor "([CIILjava/lang/Void;)V" = some ⟨[(.array .char), .int, .int, (.object "java/lang/Void")], none⟩ := by decide +kernel
set_option maxRecDepth 65536 in
set_option maxHeartbeats 40000000 in
theorem rm_init1E (l : Launch) (Z : State) (a0 : Array Value) (hw : ∀ d ∈ tables_1, d.before a0 Z = true) (ws : List Jvm.Cond) (G1 : Int32) (a5 : Addr) (ca : Addr) (kc : ClassId) (cc0 : Int32) (cc1 : Int32) (h0 : Heap) (n0 : Nat) (Z0 : n0 ≤ h0.size) (O2 : Sta Z Z.heap "java/lang/String" "COMPACT_STRINGS" "Z" (.int G1)) (P5 : ¬ G1 = 0) (f2 : Exa Z h0 a5 "java/lang/String") (f3 : Fld Z h0 a5 "java/lang/String" "coder" "B" (.int (0 : Int32))) (f4 : Fld Z h0 a5 "java/lang/String" "value" "[B" .null) (f5 : Fld Z h0 a5 "java/lang/String" "hash" "I" (.int (0 : Int32))) (f6 : Fld Z h0 a5 "java/lang/String" "hashIsZero" "Z" (.int (0 : Int32))) (f7 : Arv Z h0 ca kc .char (2 : Int32) [(.int cc0), (.int cc1)] (.int (0 : Int32))) (ga : n0 ≤ a5) (nca : a5 ≠ ca) (hg0 : ¬ (255 : Int32) < cc0) (hg1 : ¬ (255 : Int32) < cc1) (Old0 : OldL Z n0 h0) :
    MetN l Z y_28 c26 2 none ws (Rm 3 1 2 52) #[(.ref a5), (.ref ca)] h0 (Q_rm_init1E Z G1 a5 ca kc cc0 cc1 h0 n0) := by
 refine MetFree.of_bodySF (plainFor_of_name pn_java_lang_String) hisR ?_
 intro p e s m args below meth c s₁ Bd hml0 hP hK
 obtain ⟨rfl, hZ, hh⟩ := hP
 have hx := Bd.exec
 have hby := Bd.bytes
 have hml : c.maxLocals = 2 := hml0
 have hown : s.vm.findClass "java/lang/String" = some m.cls := findClass_of_methodNamed Bd.named
 have X0 : Stand p l e (Rm 3 1 2 52) s m #[(.ref a5), (.ref ca)] below meth c s₁ [] 0 0 := Stand.of_body Bd
 have e0 : s₁.heap = h0 := by rw [← hh, Bd.state]; rfl
 have N0 := Fr.nil n0
 have K00 : Keep h0 h0 [a5] := Keep.refl _ _
 show Rch p e below s₁ (entryFrame m #[(.ref a5), (.ref ca)] 2) (FinP s (Q_rm_init1E Z G1 a5 ca kc cc0 cc1 h0 n0) 1 2)
 refine Rch.cast (ef_rm_init1E m G1 a5 ca kc cc0 cc1) ?_
 show Rch p e below s₁ (mkF m 0 #[vR a5, vR ca] []) _
 refine w_aloadN (pc' := 1) X0 hx hby d26_0 rfl rfl rfl ?_
 refine w_aloadN (pc' := 2) X0 hx hby d26_1 rfl rfl rfl ?_
 refine w_iconst (pc' := 3) (v := 0) X0 hx hby d26_2 rfl rfl ?_
 refine w_aloadN (pc' := 4) X0 hx hby d26_3 rfl rfl rfl ?_
 refine Rch.st (fun _ k => own_alen X0 hx hZ e0 f7 rfl rfl (hb hby d26_4) k) ?_
 show Rch p e below s₁ (mkF m 5 #[vR a5, vR ca] [(.int 2), (.int 0), (.ref ca), (.ref a5)]) _
 refine w_aconstNull (pc' := 6) X0 hx hby d26_5 rfl ?_
 obtain ⟨_, _, ⟨T336, L336, k336, n336⟩, -, X336, ⟨Lc336, hQ336, l336, y336, z336⟩, st336⟩ := X0.specialBack hx (y := y_27) rfl hown (mvT hZ (wi hw 11 rfl)) (mvT hZ (wi hw 12 rfl)) (mvT hZ (wi hw 14 rfl)) (by decide) (backOf (W := 0) (rm_init4E l Z a0 hw [] G1 a5 ca kc cc0 cc1 h0 n0 Z0 (O2) (P5) f2 f3 f4 f5 f6 f7 (ga) (nca) (hg0) (hg1) Old0) hZ (wi hw 14 rfl) (wi hw 7 rfl) (by decide) (by decide)) (g := (mkF m 6 #[vR a5, vR ca] [.null, (.int 2), (.int 0), (.ref ca), (.ref a5)])) rfl (by rw [hml]; rfl) (Steps.refl _) (a := a5) (argsL := [(.ref ca), (.int 0), (.int 2), .null]) (rest := []) (lenOf pd___CIILjava_lang_Void__V rfl) rfl (by show 2 * 0 + _ ≤ _; exact Nat.le_of_eq rfl) (hb hby d26_6) (fun _ _ => ⟨rfl, e0, (by decide : 0 + 1 ≤ _), (by decide : 0 + 2 ≤ _)⟩)
 dsimp only [Pt.U, Pt.locs, Pt.cells, Pt.slots] at X336 l336 y336 z336 st336 hQ336
 subst l336 y336 z336
 obtain ⟨t_336, kt_336, rfl, NQ336, K336, pq336_0, fq336_0, fq336_1, fq336_2, fq336_3, fq336_4, fq336_5⟩ := hQ336
 have N337 := Fr.app N0 NQ336
 have Kp344 : Keep h0 T336.heap [a5] := K00.trans K336 (allS (Or.inl (List.mem_of_getElem? (i := 0) rfl)) all0)
 refine Rch.st (fun _ k => st336.trans k) ?_
 show Rch p e below T336 (mkF m 9 #[vR a5, vR ca] []) _
 exact Rch.ret0 X336 hx Bd.returns (hb hby d26_9) (by rw [(rfl : T336.heap = T336.heap)]; exact ⟨t_336, kt_336, rfl, N337, Kp344, (Nat.le_trans K00.1 pq336_0), fq336_0, fq336_1, fq336_2, fq336_3, fq336_4, fq336_5⟩) (by decide) (by decide)

abbrev c27 : ByteArray := method_2_code
theorem d27_0 : decode c27 0 = .ok (.iconst 2, 1) := by decide +kernel
theorem d27_1 : decode c27 1 = .ok (.newarray .char, 2) := by decide +kernel
theorem d27_3 : decode c27 3 = .ok (.astore_n 1, 1) := by decide +kernel
theorem d27_4 : decode c27 4 = .ok (.aload_n 1, 1) := by decide +kernel
theorem d27_5 : decode c27 5 = .ok (.iconst 0, 1) := by decide +kernel
theorem d27_6 : decode c27 6 = .ok (.iload_n 0, 1) := by decide +kernel
theorem d27_7 : decode c27 7 = .ok (.sipush 255, 3) := by decide +kernel
theorem d27_10 : decode c27 10 = .ok (.iand, 1) := by decide +kernel
theorem d27_11 : decode c27 11 = .ok (.i2c, 1) := by decide +kernel
theorem d27_12 : decode c27 12 = .ok (.castore, 1) := by decide +kernel
theorem d27_13 : decode c27 13 = .ok (.aload_n 1, 1) := by decide +kernel
theorem d27_14 : decode c27 14 = .ok (.iconst 1, 1) := by decide +kernel
theorem d27_15 : decode c27 15 = .ok (.iload_n 0, 1) := by decide +kernel
theorem d27_16 : decode c27 16 = .ok (.bipush 8, 2) := by decide +kernel
theorem d27_18 : decode c27 18 = .ok (.iushr, 1) := by decide +kernel
theorem d27_19 : decode c27 19 = .ok (.sipush 255, 3) := by decide +kernel
theorem d27_22 : decode c27 22 = .ok (.iand, 1) := by decide +kernel
theorem d27_23 : decode c27 23 = .ok (.i2c, 1) := by decide +kernel
theorem d27_24 : decode c27 24 = .ok (.castore, 1) := by decide +kernel
theorem d27_25 : decode c27 25 = .ok (.new 7, 3) := by decide +kernel
theorem d27_28 : decode c27 28 = .ok (.dup, 1) := by decide +kernel
theorem d27_29 : decode c27 29 = .ok (.aload_n 1, 1) := by decide +kernel
theorem d27_30 : decode c27 30 = .ok (.invokespecial 9, 3) := by decide +kernel
theorem d27_33 : decode c27 33 = .ok (.areturn, 1) := by decide +kernel
theorem pn_com_example_mandoline_mandoline_VariableFunctionPinLaw : plainName "com/example/mandoline/mandoline/VariableFunctionPinLaw" = true := by first | (simp [plainName, overriddenIn]; done) | decide +kernel
theorem ef_rm_s2 (m : MethodId) (G1 : Int32) (xx : Int32)  : entryFrame m #[(.int xx)] 2 = mkF m 0 #[vI xx, U] [] := by  first | (simp [entryFrame, mkF, argsToLocals, Value.category, maxLocals]; done) | rfl
def Q_rm_s2 (Z : State) (G1 : Int32) (xx : Int32) (h0 : Heap) (n0 : Nat) (v : Option Value) (h : Heap) (L : List Loc) : Prop := ∃ (ra : Addr) (t : Addr) (kt : ClassId) (x0 : Int32) (x1 : Int32), (v = some (.ref ra)) ∧ (Fr n0 L) ∧ (Keep h0 h []) ∧ (h0.size ≤ ra) ∧ (h0.size ≤ t) ∧ (Exa Z h ra "java/lang/String") ∧ (Fld Z h ra "java/lang/String" "coder" "B" (.int (0 : Int32))) ∧ (Fld Z h ra "java/lang/String" "value" "[B" (.ref t)) ∧ (Fld Z h ra "java/lang/String" "hash" "I" (.int (0 : Int32))) ∧ (Fld Z h ra "java/lang/String" "hashIsZero" "Z" (.int (0 : Int32))) ∧ (Arv Z h t kt .byte (2 : Int32) [(.int x0), (.int x1)] (.int (0 : Int32))) ∧ (Exa Z h t "[B")
theorem pd___C_V : parseMethodDescriptor "([C)V" = some ⟨[(.array .char)], none⟩ := by decide +kernel
set_option maxRecDepth 65536 in
set_option maxHeartbeats 40000000 in
theorem rm_s2 (l : Launch) (Z : State) (a0 : Array Value) (hw : ∀ d ∈ tables_1, d.before a0 Z = true) (ws : List Jvm.Cond) (G1 : Int32) (xx : Int32) (h0 : Heap) (n0 : Nat) (Z0 : n0 ≤ h0.size) (O2 : Sta Z Z.heap "java/lang/String" "COMPACT_STRINGS" "Z" (.int G1)) (P5 : ¬ G1 = 0) (Old0 : OldL Z n0 h0) :
    MetN l Z y_29 c27 2 (some (.object "java/lang/String")) ws (Rm 4 3 8 66) #[(.int xx)] h0 (Q_rm_s2 Z G1 xx h0 n0) := by
 refine MetFree.of_bodySF (plainFor_of_name pn_com_example_mandoline_mandoline_VariableFunctionPinLaw) hisR ?_
 intro p e s m args below meth c s₁ Bd hml0 hP hK
 obtain ⟨rfl, hZ, hh⟩ := hP
 have hx := Bd.exec
 have hby := Bd.bytes
 have hml : c.maxLocals = 2 := hml0
 have hown : s.vm.findClass "com/example/mandoline/mandoline/VariableFunctionPinLaw" = some m.cls := findClass_of_methodNamed Bd.named
 have X0 : Stand p l e (Rm 4 3 8 66) s m #[(.int xx)] below meth c s₁ [] 0 0 := Stand.of_body Bd
 have e0 : s₁.heap = h0 := by rw [← hh, Bd.state]; rfl
 have N0 := Fr.nil n0
 have K00 : Keep h0 h0 [] := Keep.refl _ _
 show Rch p e below s₁ (entryFrame m #[(.int xx)] 2) (FinP s (Q_rm_s2 Z G1 xx h0 n0) 3 8)
 refine Rch.cast (ef_rm_s2 m G1 xx) ?_
 show Rch p e below s₁ (mkF m 0 #[vI xx, U] []) _
 refine w_iconst (pc' := 1) (v := 2) X0 hx hby d27_0 rfl rfl ?_
 obtain ⟨T346, h346, kc346, X346, e346, E346, A346, st346⟩ := newP X0 hx hZ (wi hw 4 rfl) e0 (g := (mkF m 1 #[vI xx, U] [(.int 2)])) rfl (hb hby d27_1) rfl (by decide : ¬ ((2 : Int32) < (0 : Int32))) (cap := 2) (by decide : (2 : Int32).toNatClampNeg ≤ 2) (by decide) (by decide) (by decide)
 obtain ⟨a346, g346⟩ : ∃ z, z = h0.size := ⟨_, rfl⟩
 rw [← g346] at A346 st346
 have ge347 : n0 ≤ a346 := Nat.le_trans Z0 (Nat.le_of_eq g346.symm)
 have Old349 := Old0.ext E346
 have Z350 := Nat.le_trans Z0 E346.1
 have Kp351 : Keep h0 h346 [] := K00.ext E346
 have f352 : Arv Z h346 a346 kc346 .char (2 : Int32) [(.int (0 : Int32)), (.int (0 : Int32))] (.int (0 : Int32)) := (Arv.new A346 (by decide : ¬ ((2 : Int32) < (0 : Int32)))).pad (pad_rep [] (.int (0 : Int32)) 2)
 refine Rch.st (fun _ k => st346 _ k) ?_
 show Rch p e below T346 (mkF m 3 #[vI xx, U] [(.ref a346)]) _
 refine w_astoreN (pc' := 4) (l' := #[vI xx, vR a346]) X346 hx hby d27_3 rfl rfl rfl ?_
 refine w_aloadN (pc' := 5) X346 hx hby d27_4 rfl rfl rfl ?_
 refine w_iconst (pc' := 6) (v := 0) X346 hx hby d27_5 rfl rfl ?_
 refine w_iloadN (pc' := 7) X346 hx hby d27_6 rfl rfl ?_
 refine w_sipush (pc' := 10) (v := 255) X346 hx hby d27_7 rfl rfl ?_
 refine w_iand (pc' := 11) X346 hx hby d27_10 rfl ?_
 refine w_i2c (pc' := 12) X346 hx hby d27_11 rfl ?_
 have ch_qa := own_ch8 xx
 obtain ⟨qa, hv_qa⟩ : ∃ z, z = (nar .char (xx &&& (255 : Int32))) := ⟨_, rfl⟩
 rw [← hv_qa]
 show Rch p e below T346 (mkF m 12 #[vI xx, vR a346] [(.int qa), (.int 0), (.ref a346)]) _
 rw [← hv_qa] at ch_qa
 obtain ⟨T353, h353, X353, e353, W353, V353, st353⟩ := own_stC X346 hx hZ e346 f352 (j := (0 : Int32)) ⟨by decide, by decide⟩ 0 (by decide) (by decide : 0 < 2) (g := (mkF m 12 #[vI xx, vR a346] [(.int qa), (.int 0), (.ref a346)])) rfl rfl (hb hby d27_12)
 have N354 := Fr.snoc X353 N0 ge347
 have Old355 := Old349.wr W353 ge347
 have Z356 := Nat.le_trans Z350 (Keep.of_wr W353).1
 have Kp357 : Keep h0 h353 [] := Kp351.wr W353 (Or.inr (Nat.le_trans K00.1 (Nat.le_of_eq g346.symm)))
 have f358 : Arv Z h353 a346 kc346 .char (2 : Int32) [(.int (nar .char qa)), (.int (0 : Int32))] (.int (0 : Int32)) := V353
 refine Rch.st (fun _ k => st353 _ k) ?_
 show Rch p e below T353 (mkF m 13 #[vI xx, vR a346] []) _
 refine w_aloadN (pc' := 14) X353 hx hby d27_13 rfl rfl rfl ?_
 refine w_iconst (pc' := 15) (v := 1) X353 hx hby d27_14 rfl rfl ?_
 refine w_iloadN (pc' := 16) X353 hx hby d27_15 rfl rfl ?_
 refine w_bipush (pc' := 18) (v := 8) X353 hx hby d27_16 rfl rfl ?_
 refine w_iushr (pc' := 19) X353 hx hby d27_18 rfl ?_
 refine w_sipush (pc' := 22) (v := 255) X353 hx hby d27_19 rfl rfl ?_
 refine w_iand (pc' := 23) X353 hx hby d27_22 rfl ?_
 refine w_i2c (pc' := 24) X353 hx hby d27_23 rfl ?_
 have ch_qb := own_ch8 (XT.ushr xx (8 : Int32))
 obtain ⟨qb, hv_qb⟩ : ∃ z, z = (nar .char ((XT.ushr xx (8 : Int32)) &&& (255 : Int32))) := ⟨_, rfl⟩
 rw [← hv_qb]
 show Rch p e below T353 (mkF m 24 #[vI xx, vR a346] [(.int qb), (.int 1), (.ref a346)]) _
 rw [← hv_qb] at ch_qb
 obtain ⟨T359, h359, X359, e359, W359, V359, st359⟩ := own_stC X353 hx hZ e353 f358 (j := (1 : Int32)) ⟨by decide, by decide⟩ 1 (by decide) (by decide : 1 < 2) (g := (mkF m 24 #[vI xx, vR a346] [(.int qb), (.int 1), (.ref a346)])) rfl rfl (hb hby d27_24)
 have N360 := Fr.snoc X359 N354 ge347
 have Old361 := Old355.wr W359 ge347
 have Z362 := Nat.le_trans Z356 (Keep.of_wr W359).1
 have Kp363 : Keep h0 h359 [] := Kp357.wr W359 (Or.inr (Nat.le_trans K00.1 (Nat.le_of_eq g346.symm)))
 have f364 : Arv Z h359 a346 kc346 .char (2 : Int32) [(.int (nar .char qa)), (.int (nar .char qb))] (.int (0 : Int32)) := V359
 refine Rch.st (fun _ k => st359 _ k) ?_
 show Rch p e below T359 (mkF m 25 #[vI xx, vR a346] []) _
 have f365 : Arv Z h359 a346 kc346 .char (2 : Int32) [(.int qa), (.int qb)] (.int (0 : Int32)) := by have z := f364; rw [ch_qa.nr, ch_qb.nr] at z; exact z
 obtain ⟨T366, h366, X366, e366, E366, A366, D366, -, st366⟩ := newO X359 hx hZ hown (wi hw 5 rfl) (wi hw 6 rfl) (wi hw 7 rfl) e359 (g := (mkF m 25 #[vI xx, vR a346] [])) rfl (hb hby d27_25) (by decide) (by decide)
 obtain ⟨a366, g366⟩ : ∃ z, z = h359.size := ⟨_, rfl⟩
 rw [← g366] at A366 D366 st366
 have ne367 : a346 ≠ a366 := by rw [g366]; exact Nat.ne_of_lt f365.lt
 have ge368 : n0 ≤ a366 := Nat.le_trans Z362 (Nat.le_of_eq g366.symm)
 have f370 := f365.ext E366
 have Old371 := Old361.ext E366
 have Z372 := Nat.le_trans Z362 E366.1
 have Kp373 : Keep h0 h366 [] := Kp363.ext E366
 have f374 : Fld Z h366 a366 "java/lang/String" "coder" "B" (.int (0 : Int32)) := D366 (Or.inr (wi hw 31 rfl)) (ty := .byte) (by decide)
 have f375 : Fld Z h366 a366 "java/lang/String" "value" "[B" .null := D366 (Or.inr (wi hw 33 rfl)) (ty := (.array .byte)) (by decide)
 have f376 : Fld Z h366 a366 "java/lang/String" "hash" "I" (.int (0 : Int32)) := D366 (Or.inl (wi hw 156 rfl)) (ty := .int) (by decide)
 have f377 : Fld Z h366 a366 "java/lang/String" "hashIsZero" "Z" (.int (0 : Int32)) := D366 (Or.inl (wi hw 158 rfl)) (ty := .boolean) (by decide)
 refine Rch.st (fun _ k => st366 _ k) ?_
 show Rch p e below T366 (mkF m 28 #[vI xx, vR a346] [(.ref a366)]) _
 refine w_dup (pc' := 29) X366 hx hby d27_28 rfl rfl ?_
 refine w_aloadN (pc' := 30) X366 hx hby d27_29 rfl rfl rfl ?_
 obtain ⟨_, _, ⟨T378, L378, k378, n378⟩, -, X378, ⟨Lc378, hQ378, l378, y378, z378⟩, st378⟩ := X366.specialBack hx (y := y_28) rfl hown (mvT hZ (wi hw 8 rfl)) (mvT hZ (wi hw 9 rfl)) (mvT hZ (wi hw 10 rfl)) (by decide) (backOf (W := 1) (rm_init1E l Z a0 hw [] G1 a366 a346 kc346 qa qb h366 n0 Z372 (O2) (P5) A366 f374 f375 f376 f377 f370 (ge368) ((Ne.symm ne367)) (ch_qa.le) (ch_qb.le) Old371) hZ (wi hw 10 rfl) (wi hw 7 rfl) (by decide) (by decide)) (g := (mkF m 30 #[vI xx, vR a346] [(.ref a346), (.ref a366), (.ref a366)])) rfl (by rw [hml]; rfl) (Steps.refl _) (a := a366) (argsL := [(.ref a346)]) (rest := [(.ref a366)]) (lenOf pd___C_V rfl) rfl (by show 2 * 0 + _ ≤ _; exact Nat.le_of_eq rfl) (hb hby d27_30) (fun _ _ => ⟨rfl, e366, (by decide : 2 + 1 ≤ _), (by decide : 6 + 2 ≤ _)⟩)
 dsimp only [Pt.U, Pt.locs, Pt.cells, Pt.slots] at X378 l378 y378 z378 st378 hQ378
 subst l378 y378 z378
 obtain ⟨t_378, kt_378, rfl, NQ378, K378, pq378_0, fq378_0, fq378_1, fq378_2, fq378_3, fq378_4, fq378_5⟩ := hQ378
 have N379 := Fr.app N360 NQ378
 have f384 := A366.keep K378
 have Kp386 : Keep h0 T378.heap [] := Kp373.trans K378 (allS (Or.inr (Nat.le_trans Kp363.1 (Nat.le_of_eq g366.symm))) all0)
 refine Rch.st (fun _ k => st378.trans k) ?_
 show Rch p e below T378 (mkF m 33 #[vI xx, vR a346] [(.ref a366)]) _
 exact Rch.retV X378 hx Bd.returns rfl (Or.inr (Or.inr (Or.inr (Or.inr ⟨rfl, rfl, rfl⟩)))) (hb hby d27_33) (by rw [(rfl : T378.heap = T378.heap)]; exact ⟨a366, t_378, kt_378, (own_by qa), (own_by qb), rfl, N379, Kp386, (Nat.le_trans Kp363.1 (Nat.le_of_eq g366.symm)), (Nat.le_trans Kp373.1 pq378_0), f384, fq378_0, fq378_1, fq378_2, fq378_3, fq378_4, fq378_5⟩) (by decide) (by decide)

abbrev c28 : ByteArray := jdk_42_method_66_code
theorem d28_0 : decode c28 0 = .ok (.aload_n 0, 1) := by decide +kernel
theorem d28_1 : decode c28 1 = .ok (.aload_n 1, 1) := by decide +kernel
theorem d28_2 : decode c28 2 = .ok (.if_acmp .ne 5, 3) := by decide +kernel
theorem d28_5 : decode c28 5 = .ok (.iconst 1, 1) := by decide +kernel
theorem d28_6 : decode c28 6 = .ok (.ireturn, 1) := by decide +kernel
theorem ef_rm_eq (m : MethodId) (qq : Addr)  : entryFrame m #[(.ref qq), (.ref qq)] 3 = mkF m 0 #[vR qq, vR qq, U] [] := by  first | (simp [entryFrame, mkF, argsToLocals, Value.category, maxLocals]; done) | rfl
def Q_rm_eq (Z : State) (qq : Addr) (h0 : Heap) (n0 : Nat) (v : Option Value) (h : Heap) (L : List Loc) : Prop := (v = some (.int (1 : Int32))) ∧ (Fr n0 L) ∧ (h = h0)
set_option maxRecDepth 65536 in
set_option maxHeartbeats 40000000 in
theorem rm_eq (l : Launch) (Z : State) (a0 : Array Value) (hw : ∀ d ∈ tables_1, d.before a0 Z = true) (ws : List Jvm.Cond) (qq : Addr) (h0 : Heap) (n0 : Nat) (Z0 : n0 ≤ h0.size)  :
    MetN l Z y_30 c28 3 (some .boolean) ws (Rm 0 0 0 0) #[(.ref qq), (.ref qq)] h0 (Q_rm_eq Z qq h0 n0) := by
 refine MetFree.of_bodySF (plainFor_of_name pn_java_lang_String) hisR ?_
 intro p e s m args below meth c s₁ Bd hml0 hP hK
 obtain ⟨rfl, hZ, hh⟩ := hP
 have hx := Bd.exec
 have hby := Bd.bytes
 have hml : c.maxLocals = 3 := hml0
 have hown : s.vm.findClass "java/lang/String" = some m.cls := findClass_of_methodNamed Bd.named
 have X0 : Stand p l e (Rm 0 0 0 0) s m #[(.ref qq), (.ref qq)] below meth c s₁ [] 0 0 := Stand.of_body Bd
 have e0 : s₁.heap = h0 := by rw [← hh, Bd.state]; rfl
 have N0 := Fr.nil n0
 have K00 : Keep h0 h0 [] := Keep.refl _ _
 show Rch p e below s₁ (entryFrame m #[(.ref qq), (.ref qq)] 3) (FinP s (Q_rm_eq Z qq h0 n0) 0 0)
 refine Rch.cast (ef_rm_eq m qq) ?_
 show Rch p e below s₁ (mkF m 0 #[vR qq, vR qq, U] []) _
 refine w_aloadN (pc' := 1) X0 hx hby d28_0 rfl rfl rfl ?_
 refine w_aloadN (pc' := 2) X0 hx hby d28_1 rfl rfl rfl ?_
 refine w_acmpNo (pc' := 5) X0 hx hby d28_2 rfl rfl (XT.aa_ne_f (rfl)) rfl ?_
 refine w_iconst (pc' := 6) (v := 1) X0 hx hby d28_5 rfl rfl ?_
 exact Rch.retV X0 hx Bd.returns rfl (Or.inl ⟨rfl, by simp, _, rfl⟩) (hb hby d28_6) (by rw [e0]; exact ⟨rfl, N0, rfl⟩) (by decide) (by decide)

abbrev c29 : ByteArray := method_3_code
theorem d29_0 : decode c29 0 = .ok (.aload_n 0, 1) := by decide +kernel
theorem d29_1 : decode c29 1 = .ok (.ifnonnull 13, 3) := by decide +kernel
theorem d29_4 : decode c29 4 = .ok (.aload_n 1, 1) := by decide +kernel
theorem d29_5 : decode c29 5 = .ok (.ifnonnull 7, 3) := by decide +kernel
theorem d29_8 : decode c29 8 = .ok (.iconst 1, 1) := by decide +kernel
theorem d29_9 : decode c29 9 = .ok (.goto 4, 3) := by decide +kernel
theorem d29_13 : decode c29 13 = .ok (.ireturn, 1) := by decide +kernel
theorem d29_14 : decode c29 14 = .ok (.aload_n 1, 1) := by decide +kernel
theorem d29_15 : decode c29 15 = .ok (.ifnull 15, 3) := by decide +kernel
theorem d29_18 : decode c29 18 = .ok (.aload_n 1, 1) := by decide +kernel
theorem d29_19 : decode c29 19 = .ok (.aload_n 0, 1) := by decide +kernel
theorem d29_20 : decode c29 20 = .ok (.invokevirtual 12, 3) := by decide +kernel
theorem d29_23 : decode c29 23 = .ok (.ifCond .eq 7, 3) := by decide +kernel
theorem d29_26 : decode c29 26 = .ok (.iconst 1, 1) := by decide +kernel
theorem d29_27 : decode c29 27 = .ok (.goto 4, 3) := by decide +kernel
theorem d29_31 : decode c29 31 = .ok (.ireturn, 1) := by decide +kernel
theorem ef_rm_sm (m : MethodId) (v : Value) (qq : Addr) (hv : v.isRef = true) : entryFrame m #[v, v] 2 = mkF m 0 #[.val v, .val v] [] := by rcases ref_cases hv with rfl | ⟨_, rfl⟩ <;> first | (simp [entryFrame, mkF, argsToLocals, Value.category, maxLocals]; done) | rfl
def Q_rm_sm (Z : State) (v : Value) (qq : Addr) (h0 : Heap) (n0 : Nat) (v : Option Value) (h : Heap) (L : List Loc) : Prop := (v = some (.int (1 : Int32))) ∧ (Fr n0 L) ∧ (h = h0)
theorem pd__Ljava_lang_Object__Z : parseMethodDescriptor "(Ljava/lang/Object;)Z" = some ⟨[(.object "java/lang/Object")], (some .boolean)⟩ := by decide +kernel
set_option maxRecDepth 65536 in
set_option maxHeartbeats 40000000 in
theorem rm_sm (l : Launch) (Z : State) (a0 : Array Value) (hw : ∀ d ∈ tables_1, d.before a0 Z = true) (ws : List Jvm.Cond) (v : Value) (qq : Addr) (h0 : Heap) (n0 : Nat) (Z0 : n0 ≤ h0.size) (hv : v.isRef = true) (hc : v = .null ∨ v = .ref qq) (f2 : Exa Z h0 qq "java/lang/String") :
    MetN l Z y_31 c29 2 (some .boolean) ws (Rm 1 0 0 14) #[v, v] h0 (Q_rm_sm Z v qq h0 n0) := by
 refine MetFree.of_bodySF (plainFor_of_name pn_com_example_mandoline_mandoline_VariableFunctionPinLaw) hisR ?_
 intro p e s m args below meth c s₁ Bd hml0 hP hK
 obtain ⟨rfl, hZ, hh⟩ := hP
 have hx := Bd.exec
 have hby := Bd.bytes
 have hml : c.maxLocals = 2 := hml0
 have hown : s.vm.findClass "com/example/mandoline/mandoline/VariableFunctionPinLaw" = some m.cls := findClass_of_methodNamed Bd.named
 have X0 : Stand p l e (Rm 1 0 0 14) s m #[v, v] below meth c s₁ [] 0 0 := Stand.of_body Bd
 have e0 : s₁.heap = h0 := by rw [← hh, Bd.state]; rfl
 have N0 := Fr.nil n0
 have K00 : Keep h0 h0 [] := Keep.refl _ _
 show Rch p e below s₁ (entryFrame m #[v, v] 2) (FinP s (Q_rm_sm Z v qq h0 n0) 0 0)
 refine Rch.cast (ef_rm_sm m v qq hv) ?_
 show Rch p e below s₁ (mkF m 0 #[.val v, .val v] []) _
 rcases hc with rfl | rfl
 ·skip
  show Rch p e below s₁ (mkF m 0 #[vN, vN] []) _
  refine w_aloadN (pc' := 1) X0 hx hby d29_0 rfl rfl rfl ?_
  refine w_nonnullNo (pc' := 4) X0 hx hby d29_1 (rfl) rfl ?_
  refine w_aloadN (pc' := 5) X0 hx hby d29_4 rfl rfl rfl ?_
  refine w_nonnullNo (pc' := 8) X0 hx hby d29_5 (rfl) rfl ?_
  refine w_iconst (pc' := 9) (v := 1) X0 hx hby d29_8 rfl rfl ?_
  refine w_goto (pc' := 13) X0 hx hby d29_9 (by decide) ?_
  exact Rch.retV X0 hx Bd.returns rfl (Or.inl ⟨rfl, by simp, _, rfl⟩) (hb hby d29_13) (by rw [e0]; exact ⟨rfl, N0, rfl⟩) (by decide) (by decide)
 ·skip
  show Rch p e below s₁ (mkF m 0 #[vR qq, vR qq] []) _
  refine w_aloadN (pc' := 1) X0 hx hby d29_0 rfl rfl rfl ?_
  refine w_nonnullYes (pc' := 14) X0 hx hby d29_1 rfl (fun q => nomatch q) (by decide) ?_
  refine w_aloadN (pc' := 15) X0 hx hby d29_14 rfl rfl rfl ?_
  refine w_nullNo (pc' := 18) X0 hx hby d29_15 rfl (fun q => nomatch q) rfl ?_
  refine w_aloadN (pc' := 19) X0 hx hby d29_18 rfl rfl rfl ?_
  refine w_aloadN (pc' := 20) X0 hx hby d29_19 rfl rfl rfl ?_
  obtain ⟨cq388, kq388, q388a, q388b, q388c⟩ := isOf hZ e0 f2
  obtain ⟨_, _, ⟨T388, L388, k388, n388⟩, -, X388, ⟨Lc388, hQ388, l388, y388, z388⟩, st388⟩ := X0.virtualBack hx (y := y_30) (z := y_30) hown (mvT hZ (wi hw 96 rfl)) (mvT hZ (wi hw 97 rfl)) (notFace_of_selects (args := #[]) (mvT hZ (wi hw 99 rfl))) (mvT hZ (wi hw 99 rfl)) (mvT hZ (wi hw 98 rfl)) (by decide) (backOf (W := 0) (rm_eq l Z a0 hw [] qq h0 n0 Z0 ) hZ (wi hw 100 rfl) (wi hw 7 rfl) (by decide) (by decide)) q388a q388c (g := (mkF m 20 #[vR qq, vR qq] [(.ref qq), (.ref qq)])) rfl (by rw [hml]; rfl) (Steps.refl _) (argsL := [(.ref qq)]) (rest := []) (lenOf pd__Ljava_lang_Object__Z rfl) rfl (by show 2 * 0 + _ ≤ _; exact Nat.le_of_eq rfl) (hb hby d29_20) (fun _ _ => ⟨rfl, e0, (by decide : 0 + 0 ≤ _), (by decide : 0 + 0 ≤ _)⟩)
  dsimp only [Pt.U, Pt.locs, Pt.cells, Pt.slots] at X388 l388 y388 z388 st388 hQ388
  subst l388 y388 z388
  obtain ⟨rfl, NQ388, K388⟩ := hQ388
  have N389 := Fr.app N0 NQ388
  refine Rch.st (fun _ k => st388.trans k) ?_
  show Rch p e below T388 (mkF m 23 #[vR qq, vR qq] [(.int 1)]) _
  refine w_ifNo (pc' := 26) X388 hx hby d29_23 (XT.i0_eq_f (by decide)) rfl ?_
  refine w_iconst (pc' := 27) (v := 1) X388 hx hby d29_26 rfl rfl ?_
  refine w_goto (pc' := 31) X388 hx hby d29_27 (by decide) ?_
  exact Rch.retV X388 hx Bd.returns rfl (Or.inl ⟨rfl, by simp, _, rfl⟩) (hb hby d29_31) (by rw [K388]; exact ⟨rfl, N389, rfl⟩) (by decide) (by decide)

abbrev c30 : ByteArray := jdk_71_method_1_code
theorem d30_0 : decode c30 0 = .ok (.aload_n 0, 1) := by decide +kernel
theorem d30_1 : decode c30 1 = .ok (.invokespecial 1, 3) := by decide +kernel
theorem d30_4 : decode c30 4 = .ok (.return_, 1) := by decide +kernel
theorem pn_java_util_AbstractMap : plainName "java/util/AbstractMap" = true := by first | (simp [plainName, overriddenIn]; done) | decide +kernel
theorem ef_rm_AM (m : MethodId) (mp : Addr)  : entryFrame m #[(.ref mp)] 1 = mkF m 0 #[vR mp] [] := by  first | (simp [entryFrame, mkF, argsToLocals, Value.category, maxLocals]; done) | rfl
def Q_rm_AM (Z : State) (mp : Addr) (h0 : Heap) (n0 : Nat) (v : Option Value) (h : Heap) (L : List Loc) : Prop := (v = none) ∧ (Fr n0 L) ∧ (h = h0)
set_option maxRecDepth 65536 in
set_option maxHeartbeats 40000000 in
theorem rm_AM (l : Launch) (Z : State) (a0 : Array Value) (hw : ∀ d ∈ tables_1, d.before a0 Z = true) (ws : List Jvm.Cond) (mp : Addr) (h0 : Heap) (n0 : Nat) (Z0 : n0 ≤ h0.size)  :
    MetN l Z y_32 c30 1 none ws (Rm 1 0 0 12) #[(.ref mp)] h0 (Q_rm_AM Z mp h0 n0) := by
 refine MetFree.of_bodySF (plainFor_of_name pn_java_util_AbstractMap) hisR ?_
 intro p e s m args below meth c s₁ Bd hml0 hP hK
 obtain ⟨rfl, hZ, hh⟩ := hP
 have hx := Bd.exec
 have hby := Bd.bytes
 have hml : c.maxLocals = 1 := hml0
 have hown : s.vm.findClass "java/util/AbstractMap" = some m.cls := findClass_of_methodNamed Bd.named
 have X0 : Stand p l e (Rm 1 0 0 12) s m #[(.ref mp)] below meth c s₁ [] 0 0 := Stand.of_body Bd
 have e0 : s₁.heap = h0 := by rw [← hh, Bd.state]; rfl
 have N0 := Fr.nil n0
 have K00 : Keep h0 h0 [] := Keep.refl _ _
 show Rch p e below s₁ (entryFrame m #[(.ref mp)] 1) (FinP s (Q_rm_AM Z mp h0 n0) 0 0)
 refine Rch.cast (ef_rm_AM m mp) ?_
 show Rch p e below s₁ (mkF m 0 #[vR mp] []) _
 refine w_aloadN (pc' := 1) X0 hx hby d30_0 rfl rfl rfl ?_
 obtain ⟨T390, X390, e390, st390⟩ := initO X0 hx hZ hown (wi hw 62 rfl) (wi hw 16 rfl) (wi hw 17 rfl) e0 (g := (mkF m 1 #[vR mp] [(.ref mp)])) rfl (by rw [hml]; rfl) rfl (hb hby d30_1) (by decide) (W := 0) (by show 2 * 0 + _ ≤ _; exact Nat.le_of_eq rfl) (by decide)
 refine Rch.st (fun _ k => st390 _ k) ?_
 show Rch p e below T390 (mkF m 4 #[vR mp] []) _
 exact Rch.ret0 X390 hx Bd.returns (hb hby d30_4) (by rw [e390]; exact ⟨rfl, N0, rfl⟩) (by decide) (by decide)

abbrev c31 : ByteArray := jdk_69_method_7_code
theorem d31_0 : decode c31 0 = .ok (.aload_n 0, 1) := by decide +kernel
theorem d31_1 : decode c31 1 = .ok (.invokespecial 43, 3) := by decide +kernel
theorem d31_4 : decode c31 4 = .ok (.aload_n 0, 1) := by decide +kernel
theorem d31_5 : decode c31 5 = .ok (.ldc 92, 2) := by decide +kernel
theorem d31_7 : decode c31 7 = .ok (.putfield 81, 3) := by decide +kernel
theorem d31_10 : decode c31 10 = .ok (.return_, 1) := by decide +kernel
theorem pn_java_util_HashMap : plainName "java/util/HashMap" = true := by first | (simp [plainName, overriddenIn]; done) | decide +kernel
theorem ef_rm_HM (m : MethodId) (mp : Addr)  : entryFrame m #[(.ref mp)] 1 = mkF m 0 #[vR mp] [] := by  first | (simp [entryFrame, mkF, argsToLocals, Value.category, maxLocals]; done) | rfl
def Q_rm_HM (Z : State) (mp : Addr) (h0 : Heap) (n0 : Nat) (v : Option Value) (h : Heap) (L : List Loc) : Prop := (v = none) ∧ (Fr n0 L) ∧ (Keep h0 h [mp]) ∧ (Fld Z h mp "java/util/HashMap" "table" "[Ljava/util/HashMap$Node;" .null) ∧ (Fld Z h mp "java/util/HashMap" "size" "I" (.int (0 : Int32))) ∧ (Fld Z h mp "java/util/HashMap" "modCount" "I" (.int (0 : Int32))) ∧ (Fld Z h mp "java/util/HashMap" "threshold" "I" (.int (0 : Int32))) ∧ (Fld Z h mp "java/util/LinkedHashMap" "putMode" "I" (.int (0 : Int32))) ∧ (Fld Z h mp "java/util/LinkedHashMap" "head" "Ljava/util/LinkedHashMap$Entry;" .null) ∧ (Fld Z h mp "java/util/LinkedHashMap" "tail" "Ljava/util/LinkedHashMap$Entry;" .null) ∧ (Fld Z h mp "java/util/LinkedHashMap" "accessOrder" "Z" (.int (0 : Int32)))
theorem pd___V : parseMethodDescriptor "()V" = some ⟨[], none⟩ := by decide +kernel
set_option maxRecDepth 65536 in
set_option maxHeartbeats 40000000 in
theorem rm_HM (l : Launch) (Z : State) (a0 : Array Value) (hw : ∀ d ∈ tables_1, d.before a0 Z = true) (ws : List Jvm.Cond) (mp : Addr) (h0 : Heap) (n0 : Nat) (Z0 : n0 ≤ h0.size) (f0 : Exa Z h0 mp "java/util/LinkedHashMap") (f1 : Fld Z h0 mp "java/util/HashMap" "table" "[Ljava/util/HashMap$Node;" .null) (f2 : Fld Z h0 mp "java/util/HashMap" "size" "I" (.int (0 : Int32))) (f3 : Fld Z h0 mp "java/util/HashMap" "modCount" "I" (.int (0 : Int32))) (f4 : Fld Z h0 mp "java/util/HashMap" "threshold" "I" (.int (0 : Int32))) (f5 : Fld Z h0 mp "java/util/LinkedHashMap" "putMode" "I" (.int (0 : Int32))) (f6 : Fld Z h0 mp "java/util/LinkedHashMap" "head" "Ljava/util/LinkedHashMap$Entry;" .null) (f7 : Fld Z h0 mp "java/util/LinkedHashMap" "tail" "Ljava/util/LinkedHashMap$Entry;" .null) (f8 : Fld Z h0 mp "java/util/HashMap" "loadFactor" "F" (.float 0)) (f9 : Fld Z h0 mp "java/util/LinkedHashMap" "accessOrder" "Z" (.int (0 : Int32))) (gm : n0 ≤ mp) :
    MetN l Z y_33 c31 1 none ws (Rm 2 0 0 24) #[(.ref mp)] h0 (Q_rm_HM Z mp h0 n0) := by
 refine MetFree.of_bodySF (plainFor_of_name pn_java_util_HashMap) hisR ?_
 intro p e s m args below meth c s₁ Bd hml0 hP hK
 obtain ⟨rfl, hZ, hh⟩ := hP
 have hx := Bd.exec
 have hby := Bd.bytes
 have hml : c.maxLocals = 1 := hml0
 have hown : s.vm.findClass "java/util/HashMap" = some m.cls := findClass_of_methodNamed Bd.named
 have hnm := (name_of_methodNamed Bd.named Bd.method).1
 have X0 : Stand p l e (Rm 2 0 0 24) s m #[(.ref mp)] below meth c s₁ [] 0 0 := Stand.of_body Bd
 have e0 : s₁.heap = h0 := by rw [← hh, Bd.state]; rfl
 have N0 := Fr.nil n0
 have K00 : Keep h0 h0 [mp] := Keep.refl _ _
 show Rch p e below s₁ (entryFrame m #[(.ref mp)] 1) (FinP s (Q_rm_HM Z mp h0 n0) 0 0)
 refine Rch.cast (ef_rm_HM m mp) ?_
 show Rch p e below s₁ (mkF m 0 #[vR mp] []) _
 refine w_aloadN (pc' := 1) X0 hx hby d31_0 rfl rfl rfl ?_
 obtain ⟨_, _, ⟨T391, L391, k391, n391⟩, -, X391, ⟨Lc391, hQ391, l391, y391, z391⟩, st391⟩ := X0.specialBack hx (y := y_32) rfl hown (mvT hZ (wi hw 56 rfl)) (mvT hZ (wi hw 57 rfl)) (mvT hZ (wi hw 61 rfl)) (by decide) (backOf (W := 0) (rm_AM l Z a0 hw [] mp h0 n0 Z0 ) hZ (wi hw 61 rfl) (wi hw 60 rfl) (by decide) (by decide)) (g := (mkF m 1 #[vR mp] [(.ref mp)])) rfl (by rw [hml]; rfl) (Steps.refl _) (a := mp) (argsL := []) (rest := []) (lenOf pd___V rfl) rfl (by show 2 * 0 + _ ≤ _; exact Nat.le_of_eq rfl) (hb hby d31_1) (fun _ _ => ⟨rfl, e0, (by decide : 0 + 0 ≤ _), (by decide : 0 + 0 ≤ _)⟩)
 dsimp only [Pt.U, Pt.locs, Pt.cells, Pt.slots] at X391 l391 y391 z391 st391 hQ391
 subst l391 y391 z391
 obtain ⟨rfl, NQ391, K391⟩ := hQ391
 have N392 := Fr.app N0 NQ391
 refine Rch.st (fun _ k => st391.trans k) ?_
 show Rch p e below T391 (mkF m 4 #[vR mp] []) _
 refine w_aloadN (pc' := 5) X391 hx hby d31_4 rfl rfl rfl ?_
 refine Rch.st (fun _ k => own_ldcF (g := (mkF m 5 #[vR mp] [(.ref mp)])) X391 hx hown (mv hZ (wi hw 63 rfl)) rfl (hb hby d31_5) k) ?_
 show Rch p e below T391 (mkF m 7 #[vR mp] [(.float (1061158912 : UInt32)), (.ref mp)]) _
 obtain ⟨T393, h393, X393, e393, W393, st393⟩ := putF X391 hx hZ hown (host := "") (Or.inl (wi hw 64 rfl)) Via.refl K391 f8 f0 (Or.inr ⟨(wi hw 65 rfl), rfl, hnm⟩) (wi hw 45 rfl) (ty := .float) (by decide) rfl rfl (g := (mkF m 7 #[vR mp] [(.float (1061158912 : UInt32)), (.ref mp)])) rfl rfl (hb hby d31_7)
 have N394 := Fr.snoc X393 N392 gm
 have f396 := f1.other W393 (Or.inr (slot_ne (t := (.array (.object "java/util/HashMap$Node"))) (t' := .float) (Or.inl (wi hw 182 rfl)) (Or.inr (wi hw 65 rfl)) (by decide) (by decide) (by decide)))
 have f397 := f2.other W393 (Or.inr (slot_ne (t := .int) (t' := .float) (Or.inl (wi hw 178 rfl)) (Or.inr (wi hw 65 rfl)) (by decide) (by decide) (by decide)))
 have f398 := f3.other W393 (Or.inr (slot_ne (t := .int) (t' := .float) (Or.inl (wi hw 191 rfl)) (Or.inr (wi hw 65 rfl)) (by decide) (by decide) (by decide)))
 have f399 := f4.other W393 (Or.inr (slot_ne (t := .int) (t' := .float) (Or.inl (wi hw 180 rfl)) (Or.inr (wi hw 65 rfl)) (by decide) (by decide) (by decide)))
 have f400 := f5.other W393 (Or.inr (slot_ne (t := .int) (t' := .float) (Or.inl (wi hw 67 rfl)) (Or.inr (wi hw 65 rfl)) (by decide) (by decide) (by decide)))
 have f401 := f6.other W393 (Or.inr (slot_ne (t := (.object "java/util/LinkedHashMap$Entry")) (t' := .float) (Or.inl (wi hw 245 rfl)) (Or.inr (wi hw 65 rfl)) (by decide) (by decide) (by decide)))
 have f402 := f7.other W393 (Or.inr (slot_ne (t := (.object "java/util/LinkedHashMap$Entry")) (t' := .float) (Or.inl (wi hw 243 rfl)) (Or.inr (wi hw 65 rfl)) (by decide) (by decide) (by decide)))
 have f404 := f9.other W393 (Or.inr (slot_ne (t := .boolean) (t' := .float) (Or.inr (wi hw 69 rfl)) (Or.inr (wi hw 65 rfl)) (by decide) (by decide) (by decide)))
 have Kp406 : Keep h0 h393 [mp] := K00.wr W393 (Or.inl (List.mem_of_getElem? (i := 0) rfl))
 refine Rch.st (fun _ k => st393 _ k) ?_
 show Rch p e below T393 (mkF m 10 #[vR mp] []) _
 exact Rch.ret0 X393 hx Bd.returns (hb hby d31_10) (by rw [e393]; exact ⟨rfl, N394, Kp406, f396, f397, f398, f399, f400, f401, f402, f404⟩) (by decide) (by decide)

abbrev c32 : ByteArray := jdk_94_method_16_code
theorem d32_0 : decode c32 0 = .ok (.aload_n 0, 1) := by decide +kernel
theorem d32_1 : decode c32 1 = .ok (.invokespecial 87, 3) := by decide +kernel
theorem d32_4 : decode c32 4 = .ok (.aload_n 0, 1) := by decide +kernel
theorem d32_5 : decode c32 5 = .ok (.iconst 0, 1) := by decide +kernel
theorem d32_6 : decode c32 6 = .ok (.putfield 1, 3) := by decide +kernel
theorem d32_9 : decode c32 9 = .ok (.aload_n 0, 1) := by decide +kernel
theorem d32_10 : decode c32 10 = .ok (.iconst 0, 1) := by decide +kernel
theorem d32_11 : decode c32 11 = .ok (.putfield 64, 3) := by decide +kernel
theorem d32_14 : decode c32 14 = .ok (.return_, 1) := by decide +kernel
theorem pn_java_util_LinkedHashMap : plainName "java/util/LinkedHashMap" = true := by first | (simp [plainName, overriddenIn]; done) | decide +kernel
theorem ef_rm_LHM (m : MethodId) (mp : Addr)  : entryFrame m #[(.ref mp)] 1 = mkF m 0 #[vR mp] [] := by  first | (simp [entryFrame, mkF, argsToLocals, Value.category, maxLocals]; done) | rfl
def Q_rm_LHM (Z : State) (mp : Addr) (h0 : Heap) (n0 : Nat) (v : Option Value) (h : Heap) (L : List Loc) : Prop := (v = none) ∧ (Fr n0 L) ∧ (Keep h0 h [mp]) ∧ (Fld Z h mp "java/util/HashMap" "table" "[Ljava/util/HashMap$Node;" .null) ∧ (Fld Z h mp "java/util/HashMap" "size" "I" (.int (0 : Int32))) ∧ (Fld Z h mp "java/util/HashMap" "modCount" "I" (.int (0 : Int32))) ∧ (Fld Z h mp "java/util/HashMap" "threshold" "I" (.int (0 : Int32))) ∧ (Fld Z h mp "java/util/LinkedHashMap" "putMode" "I" (.int (0 : Int32))) ∧ (Fld Z h mp "java/util/LinkedHashMap" "head" "Ljava/util/LinkedHashMap$Entry;" .null) ∧ (Fld Z h mp "java/util/LinkedHashMap" "tail" "Ljava/util/LinkedHashMap$Entry;" .null)
set_option maxRecDepth 65536 in
set_option maxHeartbeats 40000000 in
theorem rm_LHM (l : Launch) (Z : State) (a0 : Array Value) (hw : ∀ d ∈ tables_1, d.before a0 Z = true) (ws : List Jvm.Cond) (mp : Addr) (h0 : Heap) (n0 : Nat) (Z0 : n0 ≤ h0.size) (f0 : Exa Z h0 mp "java/util/LinkedHashMap") (f1 : Fld Z h0 mp "java/util/HashMap" "table" "[Ljava/util/HashMap$Node;" .null) (f2 : Fld Z h0 mp "java/util/HashMap" "size" "I" (.int (0 : Int32))) (f3 : Fld Z h0 mp "java/util/HashMap" "modCount" "I" (.int (0 : Int32))) (f4 : Fld Z h0 mp "java/util/HashMap" "threshold" "I" (.int (0 : Int32))) (f5 : Fld Z h0 mp "java/util/LinkedHashMap" "putMode" "I" (.int (0 : Int32))) (f6 : Fld Z h0 mp "java/util/LinkedHashMap" "head" "Ljava/util/LinkedHashMap$Entry;" .null) (f7 : Fld Z h0 mp "java/util/LinkedHashMap" "tail" "Ljava/util/LinkedHashMap$Entry;" .null) (f8 : Fld Z h0 mp "java/util/HashMap" "loadFactor" "F" (.float 0)) (f9 : Fld Z h0 mp "java/util/LinkedHashMap" "accessOrder" "Z" (.int (0 : Int32))) (gm : n0 ≤ mp) :
    MetN l Z y_34 c32 1 none ws (Rm 3 0 0 36) #[(.ref mp)] h0 (Q_rm_LHM Z mp h0 n0) := by
 refine MetFree.of_bodySF (plainFor_of_name pn_java_util_LinkedHashMap) hisR ?_
 intro p e s m args below meth c s₁ Bd hml0 hP hK
 obtain ⟨rfl, hZ, hh⟩ := hP
 have hx := Bd.exec
 have hby := Bd.bytes
 have hml : c.maxLocals = 1 := hml0
 have hown : s.vm.findClass "java/util/LinkedHashMap" = some m.cls := findClass_of_methodNamed Bd.named
 have hnm := (name_of_methodNamed Bd.named Bd.method).1
 have X0 : Stand p l e (Rm 3 0 0 36) s m #[(.ref mp)] below meth c s₁ [] 0 0 := Stand.of_body Bd
 have e0 : s₁.heap = h0 := by rw [← hh, Bd.state]; rfl
 have N0 := Fr.nil n0
 have K00 : Keep h0 h0 [mp] := Keep.refl _ _
 show Rch p e below s₁ (entryFrame m #[(.ref mp)] 1) (FinP s (Q_rm_LHM Z mp h0 n0) 0 0)
 refine Rch.cast (ef_rm_LHM m mp) ?_
 show Rch p e below s₁ (mkF m 0 #[vR mp] []) _
 refine w_aloadN (pc' := 1) X0 hx hby d32_0 rfl rfl rfl ?_
 obtain ⟨_, _, ⟨T407, L407, k407, n407⟩, -, X407, ⟨Lc407, hQ407, l407, y407, z407⟩, st407⟩ := X0.specialBack hx (y := y_33) rfl hown (mvT hZ (wi hw 50 rfl)) (mvT hZ (wi hw 51 rfl)) (mvT hZ (wi hw 55 rfl)) (by decide) (backOf (W := 0) (rm_HM l Z a0 hw [] mp h0 n0 Z0 f0 f1 f2 f3 f4 f5 f6 f7 f8 f9 (gm)) hZ (wi hw 55 rfl) (wi hw 54 rfl) (by decide) (by decide)) (g := (mkF m 1 #[vR mp] [(.ref mp)])) rfl (by rw [hml]; rfl) (Steps.refl _) (a := mp) (argsL := []) (rest := []) (lenOf pd___V rfl) rfl (by show 2 * 0 + _ ≤ _; exact Nat.le_of_eq rfl) (hb hby d32_1) (fun _ _ => ⟨rfl, e0, (by decide : 0 + 0 ≤ _), (by decide : 0 + 0 ≤ _)⟩)
 dsimp only [Pt.U, Pt.locs, Pt.cells, Pt.slots] at X407 l407 y407 z407 st407 hQ407
 subst l407 y407 z407
 obtain ⟨rfl, NQ407, K407, fq407_0, fq407_1, fq407_2, fq407_3, fq407_4, fq407_5, fq407_6, fq407_7⟩ := hQ407
 have N408 := Fr.app N0 NQ407
 have f409 := f0.keep K407
 have Kp410 : Keep h0 T407.heap [mp] := K00.trans K407 (allS (Or.inl (List.mem_of_getElem? (i := 0) rfl)) all0)
 refine Rch.st (fun _ k => st407.trans k) ?_
 show Rch p e below T407 (mkF m 4 #[vR mp] []) _
 refine w_aloadN (pc' := 5) X407 hx hby d32_4 rfl rfl rfl ?_
 refine w_iconst (pc' := 6) (v := 0) X407 hx hby d32_5 rfl rfl ?_
 obtain ⟨T412, h412, X412, e412, W412, st412⟩ := putF X407 hx hZ hown (host := "") (Or.inl (wi hw 66 rfl)) Via.refl (rfl : T407.heap = T407.heap) fq407_4 f409 (Or.inl (wi hw 67 rfl)) (wi hw 45 rfl) (ty := .int) (by decide) rfl rfl (g := (mkF m 6 #[vR mp] [(.int 0), (.ref mp)])) rfl rfl (hb hby d32_6)
 have N413 := Fr.snoc X412 N408 gm
 have f414 := f409.wr W412
 have f415 := fq407_0.other W412 (Or.inr (slot_ne (t := (.array (.object "java/util/HashMap$Node"))) (t' := .int) (Or.inl (wi hw 182 rfl)) (Or.inl (wi hw 67 rfl)) (by decide) (by decide) (by decide)))
 have f416 := fq407_1.other W412 (Or.inr (slot_ne (t := .int) (t' := .int) (Or.inl (wi hw 178 rfl)) (Or.inl (wi hw 67 rfl)) (by decide) (by decide) (by decide)))
 have f417 := fq407_2.other W412 (Or.inr (slot_ne (t := .int) (t' := .int) (Or.inl (wi hw 191 rfl)) (Or.inl (wi hw 67 rfl)) (by decide) (by decide) (by decide)))
 have f418 := fq407_3.other W412 (Or.inr (slot_ne (t := .int) (t' := .int) (Or.inl (wi hw 180 rfl)) (Or.inl (wi hw 67 rfl)) (by decide) (by decide) (by decide)))
 have f419 := fq407_4.same W412
 have f420 := fq407_5.other W412 (Or.inr (slot_ne (t := (.object "java/util/LinkedHashMap$Entry")) (t' := .int) (Or.inl (wi hw 245 rfl)) (Or.inl (wi hw 67 rfl)) (by decide) (by decide) (by decide)))
 have f421 := fq407_6.other W412 (Or.inr (slot_ne (t := (.object "java/util/LinkedHashMap$Entry")) (t' := .int) (Or.inl (wi hw 243 rfl)) (Or.inl (wi hw 67 rfl)) (by decide) (by decide) (by decide)))
 have f422 := fq407_7.other W412 (Or.inr (slot_ne (t := .boolean) (t' := .int) (Or.inr (wi hw 69 rfl)) (Or.inl (wi hw 67 rfl)) (by decide) (by decide) (by decide)))
 have Kp424 : Keep h0 h412 [mp] := Kp410.wr W412 (Or.inl (List.mem_of_getElem? (i := 0) rfl))
 refine Rch.st (fun _ k => st412 _ k) ?_
 show Rch p e below T412 (mkF m 9 #[vR mp] []) _
 refine w_aloadN (pc' := 10) X412 hx hby d32_9 rfl rfl rfl ?_
 refine w_iconst (pc' := 11) (v := 0) X412 hx hby d32_10 rfl rfl ?_
 obtain ⟨T425, h425, X425, e425, W425, st425⟩ := putF X412 hx hZ hown (host := "") (Or.inl (wi hw 68 rfl)) Via.refl e412 f422 f414 (Or.inr ⟨(wi hw 69 rfl), rfl, hnm⟩) (wi hw 45 rfl) (ty := .boolean) (by decide) rfl rfl (g := (mkF m 11 #[vR mp] [(.int 0), (.ref mp)])) rfl rfl (hb hby d32_11)
 have N426 := Fr.snoc X425 N413 gm
 have f428 := f415.other W425 (Or.inr (slot_ne (t := (.array (.object "java/util/HashMap$Node"))) (t' := .boolean) (Or.inl (wi hw 182 rfl)) (Or.inr (wi hw 69 rfl)) (by decide) (by decide) (by decide)))
 have f429 := f416.other W425 (Or.inr (slot_ne (t := .int) (t' := .boolean) (Or.inl (wi hw 178 rfl)) (Or.inr (wi hw 69 rfl)) (by decide) (by decide) (by decide)))
 have f430 := f417.other W425 (Or.inr (slot_ne (t := .int) (t' := .boolean) (Or.inl (wi hw 191 rfl)) (Or.inr (wi hw 69 rfl)) (by decide) (by decide) (by decide)))
 have f431 := f418.other W425 (Or.inr (slot_ne (t := .int) (t' := .boolean) (Or.inl (wi hw 180 rfl)) (Or.inr (wi hw 69 rfl)) (by decide) (by decide) (by decide)))
 have f432 := f419.other W425 (Or.inr (slot_ne (t := .int) (t' := .boolean) (Or.inl (wi hw 67 rfl)) (Or.inr (wi hw 69 rfl)) (by decide) (by decide) (by decide)))
 have f433 := f420.other W425 (Or.inr (slot_ne (t := (.object "java/util/LinkedHashMap$Entry")) (t' := .boolean) (Or.inl (wi hw 245 rfl)) (Or.inr (wi hw 69 rfl)) (by decide) (by decide) (by decide)))
 have f434 := f421.other W425 (Or.inr (slot_ne (t := (.object "java/util/LinkedHashMap$Entry")) (t' := .boolean) (Or.inl (wi hw 243 rfl)) (Or.inr (wi hw 69 rfl)) (by decide) (by decide) (by decide)))
 have Kp437 : Keep h0 h425 [mp] := Kp424.wr W425 (Or.inl (List.mem_of_getElem? (i := 0) rfl))
 refine Rch.st (fun _ k => st425 _ k) ?_
 show Rch p e below T425 (mkF m 14 #[vR mp] []) _
 exact Rch.ret0 X425 hx Bd.returns (hb hby d32_14) (by rw [e425]; exact ⟨rfl, N426, Kp437, f428, f429, f430, f431, f432, f433, f434⟩) (by decide) (by decide)

abbrev c33 : ByteArray := jdk_40_method_36_code
theorem d33_0 : decode c33 0 = .ok (.getstatic 90, 3) := by decide +kernel
theorem d33_3 : decode c33 3 = .ok (.areturn, 1) := by decide +kernel
theorem pn_java_util_List : plainName "java/util/List" = true := by first | (simp [plainName, overriddenIn]; done) | decide +kernel
theorem ef_rm_of (m : MethodId) (G6 : Addr)  : entryFrame m #[] 0 = mkF m 0 #[] [] := by  first | (simp [entryFrame, mkF, argsToLocals, Value.category, maxLocals]; done) | rfl
def Q_rm_of (Z : State) (G6 : Addr) (h0 : Heap) (n0 : Nat) (v : Option Value) (h : Heap) (L : List Loc) : Prop := (v = some (.ref G6)) ∧ (Fr n0 L) ∧ (h = h0)
set_option maxRecDepth 65536 in
set_option maxHeartbeats 40000000 in
theorem rm_of (l : Launch) (Z : State) (a0 : Array Value) (hw : ∀ d ∈ tables_1, d.before a0 Z = true) (ws : List Jvm.Cond) (G6 : Addr) (h0 : Heap) (n0 : Nat) (Z0 : n0 ≤ h0.size) (O6 : Sta Z Z.heap "java/util/ImmutableCollections" "EMPTY_LIST" "Ljava/util/ImmutableCollections$ListN;" (.ref G6)) (Old0 : OldL Z n0 h0) :
    MetN l Z y_35 c33 0 (some (.object "java/util/List")) ws (Rm 0 0 0 0) #[] h0 (Q_rm_of Z G6 h0 n0) := by
 refine MetFree.of_bodySF (plainFor_of_name pn_java_util_List) hisR ?_
 intro p e s m args below meth c s₁ Bd hml0 hP hK
 obtain ⟨rfl, hZ, hh⟩ := hP
 have hx := Bd.exec
 have hby := Bd.bytes
 have hml : c.maxLocals = 0 := hml0
 have hown : s.vm.findClass "java/util/List" = some m.cls := findClass_of_methodNamed Bd.named
 have X0 : Stand p l e (Rm 0 0 0 0) s m #[] below meth c s₁ [] 0 0 := Stand.of_body Bd
 have e0 : s₁.heap = h0 := by rw [← hh, Bd.state]; rfl
 have N0 := Fr.nil n0
 have K00 : Keep h0 h0 [] := Keep.refl _ _
 show Rch p e below s₁ (entryFrame m #[] 0) (FinP s (Q_rm_of Z G6 h0 n0) 0 0)
 refine Rch.cast (ef_rm_of m G6) ?_
 show Rch p e below s₁ (mkF m 0 #[] []) _
 obtain ⟨T438, X438, e438, st438⟩ := getS X0 hx hZ hown (host := "") (wi hw 76 rfl) Via.refl e0 (O6.ext Old0.2) (g := (mkF m 0 #[] [])) rfl (hb hby d33_0)
 refine Rch.st (fun _ k => st438 _ k) ?_
 show Rch p e below T438 (mkF m 3 #[] [(.ref G6)]) _
 exact Rch.retV X438 hx Bd.returns rfl (Or.inr (Or.inr (Or.inr (Or.inr ⟨rfl, rfl, rfl⟩)))) (hb hby d33_3) (by rw [e438]; exact ⟨rfl, N0, rfl⟩) (by decide) (by decide)

abbrev c34 : ByteArray := prog_50_method_3_code
theorem d34_0 : decode c34 0 = .ok (.aload_n 0, 1) := by decide +kernel
theorem d34_1 : decode c34 1 = .ok (.invokespecial 7, 3) := by decide +kernel
theorem d34_4 : decode c34 4 = .ok (.aload_n 0, 1) := by decide +kernel
theorem d34_5 : decode c34 5 = .ok (.new 12, 3) := by decide +kernel
theorem d34_8 : decode c34 8 = .ok (.dup, 1) := by decide +kernel
theorem d34_9 : decode c34 9 = .ok (.invokespecial 14, 3) := by decide +kernel
theorem d34_12 : decode c34 12 = .ok (.putfield 15, 3) := by decide +kernel
theorem d34_15 : decode c34 15 = .ok (.aload_n 0, 1) := by decide +kernel
theorem d34_16 : decode c34 16 = .ok (.invokestatic 19, 3) := by decide +kernel
theorem d34_19 : decode c34 19 = .ok (.putfield 25, 3) := by decide +kernel
theorem d34_22 : decode c34 22 = .ok (.aload_n 0, 1) := by decide +kernel
theorem d34_23 : decode c34 23 = .ok (.aload_n 1, 1) := by decide +kernel
theorem d34_24 : decode c34 24 = .ok (.putfield 29, 3) := by decide +kernel
theorem d34_27 : decode c34 27 = .ok (.aload_n 0, 1) := by decide +kernel
theorem d34_28 : decode c34 28 = .ok (.aload_n 2, 1) := by decide +kernel
theorem d34_29 : decode c34 29 = .ok (.putfield 33, 3) := by decide +kernel
theorem d34_32 : decode c34 32 = .ok (.aload_n 0, 1) := by decide +kernel
theorem d34_33 : decode c34 33 = .ok (.aload_n 3, 1) := by decide +kernel
theorem d34_34 : decode c34 34 = .ok (.putfield 37, 3) := by decide +kernel
theorem d34_37 : decode c34 37 = .ok (.aload_n 0, 1) := by decide +kernel
theorem d34_38 : decode c34 38 = .ok (.aload 4, 2) := by decide +kernel
theorem d34_40 : decode c34 40 = .ok (.putfield 40, 3) := by decide +kernel
theorem d34_43 : decode c34 43 = .ok (.return_, 1) := by decide +kernel
theorem pn_com_example_mandoline_mandoline_Variable : plainName "com/example/mandoline/mandoline/Variable" = true := by first | (simp [plainName, overriddenIn]; done) | decide +kernel
theorem ef_rm_v4 (m : MethodId) (G6 : Addr) (va : Addr) (nm : Addr) (ds : Value) (fv : Value) (cv : Value) (hds : ds.isRef = true) (hfv : fv.isRef = true) (hcv : cv.isRef = true) : entryFrame m #[(.ref va), (.ref nm), ds, fv, cv] 5 = mkF m 0 #[vR va, vR nm, .val ds, .val fv, .val cv] [] := by rcases ref_cases hds with rfl | ⟨_, rfl⟩ <;> rcases ref_cases hfv with rfl | ⟨_, rfl⟩ <;> rcases ref_cases hcv with rfl | ⟨_, rfl⟩ <;> first | (simp [entryFrame, mkF, argsToLocals, Value.category, maxLocals]; done) | rfl
def Q_rm_v4 (Z : State) (G6 : Addr) (va : Addr) (nm : Addr) (ds : Value) (fv : Value) (cv : Value) (h0 : Heap) (n0 : Nat) (v : Option Value) (h : Heap) (L : List Loc) : Prop := ∃ (m2 : Addr), (v = none) ∧ (Fr n0 L) ∧ (Keep h0 h [va]) ∧ (h0.size ≤ m2) ∧ (Fld Z h va "com/example/mandoline/mandoline/Variable" "fields" "Ljava/util/Map;" (.ref m2)) ∧ (Fld Z h va "com/example/mandoline/mandoline/Variable" "name" "Ljava/lang/String;" (.ref nm)) ∧ (Fld Z h va "com/example/mandoline/mandoline/Variable" "function" "Ljava/lang/String;" fv) ∧ (Fld Z h va "com/example/mandoline/mandoline/Variable" "containing" "Lcom/example/mandoline/mandoline/Variable;" cv) ∧ (Fld Z h va "com/example/mandoline/mandoline/Variable" "declaringStatement" "Lcom/example/mandoline/mandoline/ClangNode;" ds) ∧ (Exa Z h m2 "java/util/LinkedHashMap") ∧ (Fld Z h m2 "java/util/HashMap" "table" "[Ljava/util/HashMap$Node;" .null) ∧ (Fld Z h m2 "java/util/HashMap" "size" "I" (.int (0 : Int32))) ∧ (Fld Z h m2 "java/util/HashMap" "modCount" "I" (.int (0 : Int32))) ∧ (Fld Z h m2 "java/util/HashMap" "threshold" "I" (.int (0 : Int32))) ∧ (Fld Z h m2 "java/util/LinkedHashMap" "putMode" "I" (.int (0 : Int32))) ∧ (Fld Z h m2 "java/util/LinkedHashMap" "head" "Ljava/util/LinkedHashMap$Entry;" .null) ∧ (Fld Z h m2 "java/util/LinkedHashMap" "tail" "Ljava/util/LinkedHashMap$Entry;" .null)
theorem pd___Ljava_util_List_ : parseMethodDescriptor "()Ljava/util/List;" = some ⟨[], (some (.object "java/util/List"))⟩ := by decide +kernel
set_option maxRecDepth 65536 in
set_option maxHeartbeats 40000000 in
theorem rm_v4 (l : Launch) (Z : State) (a0 : Array Value) (hw : ∀ d ∈ tables_1, d.before a0 Z = true) (ws : List Jvm.Cond) (G6 : Addr) (va : Addr) (nm : Addr) (ds : Value) (fv : Value) (cv : Value) (h0 : Heap) (n0 : Nat) (Z0 : n0 ≤ h0.size) (O6 : Sta Z Z.heap "java/util/ImmutableCollections" "EMPTY_LIST" "Ljava/util/ImmutableCollections$ListN;" (.ref G6)) (f1 : Exa Z h0 va "com/example/mandoline/mandoline/Variable") (f2 : Fld Z h0 va "com/example/mandoline/mandoline/Variable" "fields" "Ljava/util/Map;" .null) (f3 : Fld Z h0 va "com/example/mandoline/mandoline/Variable" "declarationNodes" "Ljava/util/List;" .null) (f4 : Fld Z h0 va "com/example/mandoline/mandoline/Variable" "name" "Ljava/lang/String;" .null) (f5 : Fld Z h0 va "com/example/mandoline/mandoline/Variable" "declaringStatement" "Lcom/example/mandoline/mandoline/ClangNode;" .null) (f6 : Fld Z h0 va "com/example/mandoline/mandoline/Variable" "function" "Ljava/lang/String;" .null) (f7 : Fld Z h0 va "com/example/mandoline/mandoline/Variable" "containing" "Lcom/example/mandoline/mandoline/Variable;" .null) (gv : n0 ≤ va) (hds : ds.isRef = true) (hfv : fv.isRef = true) (hcv : cv.isRef = true) (Old0 : OldL Z n0 h0) :
    MetN l Z y_36 c34 5 none ws (Rm 4 1 12 50) #[(.ref va), (.ref nm), ds, fv, cv] h0 (Q_rm_v4 Z G6 va nm ds fv cv h0 n0) := by
 refine MetFree.of_bodySF (plainFor_of_name pn_com_example_mandoline_mandoline_Variable) hisR ?_
 intro p e s m args below meth c s₁ Bd hml0 hP hK
 obtain ⟨rfl, hZ, hh⟩ := hP
 have hx := Bd.exec
 have hby := Bd.bytes
 have hml : c.maxLocals = 5 := hml0
 have hown : s.vm.findClass "com/example/mandoline/mandoline/Variable" = some m.cls := findClass_of_methodNamed Bd.named
 have hnm := (name_of_methodNamed Bd.named Bd.method).1
 have X0 : Stand p l e (Rm 4 1 12 50) s m #[(.ref va), (.ref nm), ds, fv, cv] below meth c s₁ [] 0 0 := Stand.of_body Bd
 have e0 : s₁.heap = h0 := by rw [← hh, Bd.state]; rfl
 have N0 := Fr.nil n0
 have K00 : Keep h0 h0 [va] := Keep.refl _ _
 show Rch p e below s₁ (entryFrame m #[(.ref va), (.ref nm), ds, fv, cv] 5) (FinP s (Q_rm_v4 Z G6 va nm ds fv cv h0 n0) 1 12)
 refine Rch.cast (ef_rm_v4 m G6 va nm ds fv cv hds hfv hcv) ?_
 show Rch p e below s₁ (mkF m 0 #[vR va, vR nm, .val ds, .val fv, .val cv] []) _
 refine w_aloadN (pc' := 1) X0 hx hby d34_0 rfl rfl rfl ?_
 obtain ⟨T439, X439, e439, st439⟩ := initO X0 hx hZ hown (wi hw 43 rfl) (wi hw 16 rfl) (wi hw 17 rfl) e0 (g := (mkF m 1 #[vR va, vR nm, .val ds, .val fv, .val cv] [(.ref va)])) rfl (by rw [hml]; rfl) rfl (hb hby d34_1) (by decide) (W := 0) (by show 2 * 0 + _ ≤ _; exact Nat.le_of_eq rfl) (by decide)
 refine Rch.st (fun _ k => st439 _ k) ?_
 show Rch p e below T439 (mkF m 4 #[vR va, vR nm, .val ds, .val fv, .val cv] []) _
 refine w_aloadN (pc' := 5) X439 hx hby d34_4 rfl rfl rfl ?_
 obtain ⟨T440, h440, X440, e440, E440, A440, D440, -, st440⟩ := newO X439 hx hZ hown (wi hw 44 rfl) (wi hw 45 rfl) (wi hw 46 rfl) e439 (g := (mkF m 5 #[vR va, vR nm, .val ds, .val fv, .val cv] [(.ref va)])) rfl (hb hby d34_5) (by decide) (by decide)
 obtain ⟨a440, g440⟩ : ∃ z, z = h0.size := ⟨_, rfl⟩
 rw [← g440] at A440 D440 st440
 have ne441 : va ≠ a440 := by rw [g440]; exact Nat.ne_of_lt f1.lt
 have ge442 : n0 ≤ a440 := Nat.le_trans Z0 (Nat.le_of_eq g440.symm)
 have f444 := f1.ext E440
 have f445 := f2.ext E440
 have f446 := f3.ext E440
 have f447 := f4.ext E440
 have f448 := f5.ext E440
 have f449 := f6.ext E440
 have f450 := f7.ext E440
 have Old451 := Old0.ext E440
 have Z452 := Nat.le_trans Z0 E440.1
 have Kp453 : Keep h0 h440 [va] := K00.ext E440
 have f454 : Fld Z h440 a440 "java/util/HashMap" "table" "[Ljava/util/HashMap$Node;" .null := D440 (Or.inl (wi hw 182 rfl)) (ty := (.array (.object "java/util/HashMap$Node"))) (by decide)
 have f455 : Fld Z h440 a440 "java/util/HashMap" "size" "I" (.int (0 : Int32)) := D440 (Or.inl (wi hw 178 rfl)) (ty := .int) (by decide)
 have f456 : Fld Z h440 a440 "java/util/HashMap" "modCount" "I" (.int (0 : Int32)) := D440 (Or.inl (wi hw 191 rfl)) (ty := .int) (by decide)
 have f457 : Fld Z h440 a440 "java/util/HashMap" "threshold" "I" (.int (0 : Int32)) := D440 (Or.inl (wi hw 180 rfl)) (ty := .int) (by decide)
 have f458 : Fld Z h440 a440 "java/util/LinkedHashMap" "putMode" "I" (.int (0 : Int32)) := D440 (Or.inl (wi hw 67 rfl)) (ty := .int) (by decide)
 have f459 : Fld Z h440 a440 "java/util/LinkedHashMap" "head" "Ljava/util/LinkedHashMap$Entry;" .null := D440 (Or.inl (wi hw 245 rfl)) (ty := (.object "java/util/LinkedHashMap$Entry")) (by decide)
 have f460 : Fld Z h440 a440 "java/util/LinkedHashMap" "tail" "Ljava/util/LinkedHashMap$Entry;" .null := D440 (Or.inl (wi hw 243 rfl)) (ty := (.object "java/util/LinkedHashMap$Entry")) (by decide)
 have f461 : Fld Z h440 a440 "java/util/HashMap" "loadFactor" "F" (.float 0) := D440 (Or.inr (wi hw 65 rfl)) (ty := .float) (by decide)
 have f462 : Fld Z h440 a440 "java/util/LinkedHashMap" "accessOrder" "Z" (.int (0 : Int32)) := D440 (Or.inr (wi hw 69 rfl)) (ty := .boolean) (by decide)
 refine Rch.st (fun _ k => st440 _ k) ?_
 show Rch p e below T440 (mkF m 8 #[vR va, vR nm, .val ds, .val fv, .val cv] [(.ref a440), (.ref va)]) _
 refine w_dup (pc' := 9) X440 hx hby d34_8 rfl rfl ?_
 obtain ⟨_, _, ⟨T463, L463, k463, n463⟩, -, X463, ⟨Lc463, hQ463, l463, y463, z463⟩, st463⟩ := X440.specialBack hx (y := y_34) rfl hown (mvT hZ (wi hw 47 rfl)) (mvT hZ (wi hw 48 rfl)) (mvT hZ (wi hw 49 rfl)) (by decide) (backOf (W := 2) (rm_LHM l Z a0 hw [] a440 h440 n0 Z452 A440 f454 f455 f456 f457 f458 f459 f460 f461 f462 (ge442)) hZ (wi hw 49 rfl) (wi hw 46 rfl) (by decide) (by decide)) (g := (mkF m 9 #[vR va, vR nm, .val ds, .val fv, .val cv] [(.ref a440), (.ref a440), (.ref va)])) rfl (by rw [hml]; rfl) (Steps.refl _) (a := a440) (argsL := []) (rest := [(.ref a440), (.ref va)]) (lenOf pd___V rfl) rfl (by show 2 * 0 + _ ≤ _; exact Nat.le_of_eq rfl) (hb hby d34_9) (fun _ _ => ⟨rfl, e440, (by decide : 1 + 0 ≤ _), (by decide : 12 + 0 ≤ _)⟩)
 dsimp only [Pt.U, Pt.locs, Pt.cells, Pt.slots] at X463 l463 y463 z463 st463 hQ463
 subst l463 y463 z463
 obtain ⟨rfl, NQ463, K463, fq463_0, fq463_1, fq463_2, fq463_3, fq463_4, fq463_5, fq463_6⟩ := hQ463
 have N464 := Fr.app N0 NQ463
 have f465 := f444.keep K463
 have f466 := f445.keep K463 (ninS ne441 nin0)
 have f467 := f446.keep K463 (ninS ne441 nin0)
 have f468 := f447.keep K463 (ninS ne441 nin0)
 have f469 := f448.keep K463 (ninS ne441 nin0)
 have f470 := f449.keep K463 (ninS ne441 nin0)
 have f471 := f450.keep K463 (ninS ne441 nin0)
 have f472 := A440.keep K463
 have Old473 := Old451.keep K463 (allS ge442 all0)
 have Kp474 : Keep h0 T463.heap [va] := Kp453.trans K463 (allS (Or.inr (Nat.le_trans K00.1 (Nat.le_of_eq g440.symm))) all0)
 have Z475 := Nat.le_trans Z452 K463.1
 refine Rch.st (fun _ k => st463.trans k) ?_
 show Rch p e below T463 (mkF m 12 #[vR va, vR nm, .val ds, .val fv, .val cv] [(.ref a440), (.ref va)]) _
 obtain ⟨T476, h476, X476, e476, W476, st476⟩ := putF X463 hx hZ hown (host := "") (Or.inl (wi hw 70 rfl)) Via.refl (rfl : T463.heap = T463.heap) f466 f465 (Or.inr ⟨(wi hw 71 rfl), rfl, hnm⟩) (wi hw 35 rfl) (ty := (.object "java/util/Map")) (by decide) rfl rfl (g := (mkF m 12 #[vR va, vR nm, .val ds, .val fv, .val cv] [(.ref a440), (.ref va)])) rfl rfl (hb hby d34_12)
 have N477 := Fr.snoc X476 N464 gv
 have f478 := f465.wr W476
 have f479 := f466.same W476
 have f480 := f467.other W476 (Or.inr (slot_ne (t := (.object "java/util/List")) (t' := (.object "java/util/Map")) (Or.inl (wi hw 79 rfl)) (Or.inr (wi hw 71 rfl)) (by decide) (by decide) (by decide)))
 have f481 := f468.other W476 (Or.inr (slot_ne (t := (.object "java/lang/String")) (t' := (.object "java/util/Map")) (Or.inr (wi hw 81 rfl)) (Or.inr (wi hw 71 rfl)) (by decide) (by decide) (by decide)))
 have f482 := f469.other W476 (Or.inr (slot_ne (t := (.object "com/example/mandoline/mandoline/ClangNode")) (t' := (.object "java/util/Map")) (Or.inr (wi hw 83 rfl)) (Or.inr (wi hw 71 rfl)) (by decide) (by decide) (by decide)))
 have f483 := f470.other W476 (Or.inr (slot_ne (t := (.object "java/lang/String")) (t' := (.object "java/util/Map")) (Or.inr (wi hw 85 rfl)) (Or.inr (wi hw 71 rfl)) (by decide) (by decide) (by decide)))
 have f484 := f471.other W476 (Or.inr (slot_ne (t := (.object "com/example/mandoline/mandoline/Variable")) (t' := (.object "java/util/Map")) (Or.inr (wi hw 87 rfl)) (Or.inr (wi hw 71 rfl)) (by decide) (by decide) (by decide)))
 have f485 := f472.wr W476
 have f486 := fq463_0.other W476 (Or.inl (Ne.symm ne441))
 have f487 := fq463_1.other W476 (Or.inl (Ne.symm ne441))
 have f488 := fq463_2.other W476 (Or.inl (Ne.symm ne441))
 have f489 := fq463_3.other W476 (Or.inl (Ne.symm ne441))
 have f490 := fq463_4.other W476 (Or.inl (Ne.symm ne441))
 have f491 := fq463_5.other W476 (Or.inl (Ne.symm ne441))
 have f492 := fq463_6.other W476 (Or.inl (Ne.symm ne441))
 have Old493 := Old473.wr W476 gv
 have Z494 := Nat.le_trans Z475 (Keep.of_wr W476).1
 have Kp495 : Keep h0 h476 [va] := Kp474.wr W476 (Or.inl (List.mem_of_getElem? (i := 0) rfl))
 refine Rch.st (fun _ k => st476 _ k) ?_
 show Rch p e below T476 (mkF m 15 #[vR va, vR nm, .val ds, .val fv, .val cv] []) _
 refine w_aloadN (pc' := 16) X476 hx hby d34_15 rfl rfl rfl ?_
 obtain ⟨_, _, ⟨T496, L496, k496, n496⟩, -, X496, ⟨Lc496, hQ496, l496, y496, z496⟩, st496⟩ := Jvm.LawKit.callS X476 hx (y := y_35) hown (mvT hZ (wi hw 72 rfl)) (mvT hZ (wi hw 73 rfl)) (mvT hZ (wi hw 74 rfl)) (mvT hZ (wi hw 75 rfl)) (by decide) (backOf (W := 1) (rm_of l Z a0 hw [] G6 h476 n0 Z494 (O6) Old493) hZ (wi hw 75 rfl) (wi hw 74 rfl) (by decide) (by decide)) (g := (mkF m 16 #[vR va, vR nm, .val ds, .val fv, .val cv] [(.ref va)])) rfl (by rw [hml]; rfl) (argsL := []) (rest := [(.ref va)]) (lenOf pd___Ljava_util_List_ rfl) rfl (by show 2 * 0 + _ ≤ _; exact Nat.le_of_eq rfl) (hb hby d34_16) (fun _ _ => ⟨rfl, e476, (by decide : 1 + 0 ≤ _), (by decide : 12 + 0 ≤ _)⟩)
 dsimp only [Pt.U, Pt.locs, Pt.cells, Pt.slots] at X496 l496 y496 z496 st496 hQ496
 subst l496 y496 z496
 obtain ⟨rfl, NQ496, K496⟩ := hQ496
 have N497 := Fr.app N477 NQ496
 refine Rch.st (fun _ k => st496 _ k) ?_
 show Rch p e below T496 (mkF m 19 #[vR va, vR nm, .val ds, .val fv, .val cv] [(.ref G6), (.ref va)]) _
 obtain ⟨T498, h498, X498, e498, W498, st498⟩ := putF X496 hx hZ hown (host := "") (Or.inl (wi hw 78 rfl)) Via.refl K496 f480 f478 (Or.inl (wi hw 79 rfl)) (wi hw 35 rfl) (ty := (.object "java/util/List")) (by decide) rfl rfl (g := (mkF m 19 #[vR va, vR nm, .val ds, .val fv, .val cv] [(.ref G6), (.ref va)])) rfl rfl (hb hby d34_19)
 have N499 := Fr.snoc X498 N497 gv
 have f500 := f478.wr W498
 have f501 := f479.other W498 (Or.inr (slot_ne (t := (.object "java/util/Map")) (t' := (.object "java/util/List")) (Or.inr (wi hw 71 rfl)) (Or.inl (wi hw 79 rfl)) (by decide) (by decide) (by decide)))
 have f503 := f481.other W498 (Or.inr (slot_ne (t := (.object "java/lang/String")) (t' := (.object "java/util/List")) (Or.inr (wi hw 81 rfl)) (Or.inl (wi hw 79 rfl)) (by decide) (by decide) (by decide)))
 have f504 := f482.other W498 (Or.inr (slot_ne (t := (.object "com/example/mandoline/mandoline/ClangNode")) (t' := (.object "java/util/List")) (Or.inr (wi hw 83 rfl)) (Or.inl (wi hw 79 rfl)) (by decide) (by decide) (by decide)))
 have f505 := f483.other W498 (Or.inr (slot_ne (t := (.object "java/lang/String")) (t' := (.object "java/util/List")) (Or.inr (wi hw 85 rfl)) (Or.inl (wi hw 79 rfl)) (by decide) (by decide) (by decide)))
 have f506 := f484.other W498 (Or.inr (slot_ne (t := (.object "com/example/mandoline/mandoline/Variable")) (t' := (.object "java/util/List")) (Or.inr (wi hw 87 rfl)) (Or.inl (wi hw 79 rfl)) (by decide) (by decide) (by decide)))
 have f507 := f485.wr W498
 have f508 := f486.other W498 (Or.inl (Ne.symm ne441))
 have f509 := f487.other W498 (Or.inl (Ne.symm ne441))
 have f510 := f488.other W498 (Or.inl (Ne.symm ne441))
 have f511 := f489.other W498 (Or.inl (Ne.symm ne441))
 have f512 := f490.other W498 (Or.inl (Ne.symm ne441))
 have f513 := f491.other W498 (Or.inl (Ne.symm ne441))
 have f514 := f492.other W498 (Or.inl (Ne.symm ne441))
 have Kp517 : Keep h0 h498 [va] := Kp495.wr W498 (Or.inl (List.mem_of_getElem? (i := 0) rfl))
 refine Rch.st (fun _ k => st498 _ k) ?_
 show Rch p e below T498 (mkF m 22 #[vR va, vR nm, .val ds, .val fv, .val cv] []) _
 refine w_aloadN (pc' := 23) X498 hx hby d34_22 rfl rfl rfl ?_
 refine w_aloadN (pc' := 24) X498 hx hby d34_23 rfl rfl rfl ?_
 obtain ⟨T518, h518, X518, e518, W518, st518⟩ := putF X498 hx hZ hown (host := "") (Or.inl (wi hw 80 rfl)) Via.refl e498 f503 f500 (Or.inr ⟨(wi hw 81 rfl), rfl, hnm⟩) (wi hw 35 rfl) (ty := (.object "java/lang/String")) (by decide) rfl rfl (g := (mkF m 24 #[vR va, vR nm, .val ds, .val fv, .val cv] [(.ref nm), (.ref va)])) rfl rfl (hb hby d34_24)
 have N519 := Fr.snoc X518 N499 gv
 have f520 := f500.wr W518
 have f521 := f501.other W518 (Or.inr (slot_ne (t := (.object "java/util/Map")) (t' := (.object "java/lang/String")) (Or.inr (wi hw 71 rfl)) (Or.inr (wi hw 81 rfl)) (by decide) (by decide) (by decide)))
 have f523 := f503.same W518
 have f524 := f504.other W518 (Or.inr (slot_ne (t := (.object "com/example/mandoline/mandoline/ClangNode")) (t' := (.object "java/lang/String")) (Or.inr (wi hw 83 rfl)) (Or.inr (wi hw 81 rfl)) (by decide) (by decide) (by decide)))
 have f525 := f505.other W518 (Or.inr (slot_ne (t := (.object "java/lang/String")) (t' := (.object "java/lang/String")) (Or.inr (wi hw 85 rfl)) (Or.inr (wi hw 81 rfl)) (by decide) (by decide) (by decide)))
 have f526 := f506.other W518 (Or.inr (slot_ne (t := (.object "com/example/mandoline/mandoline/Variable")) (t' := (.object "java/lang/String")) (Or.inr (wi hw 87 rfl)) (Or.inr (wi hw 81 rfl)) (by decide) (by decide) (by decide)))
 have f527 := f507.wr W518
 have f528 := f508.other W518 (Or.inl (Ne.symm ne441))
 have f529 := f509.other W518 (Or.inl (Ne.symm ne441))
 have f530 := f510.other W518 (Or.inl (Ne.symm ne441))
 have f531 := f511.other W518 (Or.inl (Ne.symm ne441))
 have f532 := f512.other W518 (Or.inl (Ne.symm ne441))
 have f533 := f513.other W518 (Or.inl (Ne.symm ne441))
 have f534 := f514.other W518 (Or.inl (Ne.symm ne441))
 have Kp537 : Keep h0 h518 [va] := Kp517.wr W518 (Or.inl (List.mem_of_getElem? (i := 0) rfl))
 refine Rch.st (fun _ k => st518 _ k) ?_
 show Rch p e below T518 (mkF m 27 #[vR va, vR nm, .val ds, .val fv, .val cv] []) _
 refine w_aloadN (pc' := 28) X518 hx hby d34_27 rfl rfl rfl ?_
 refine w_aloadN (pc' := 29) X518 hx hby d34_28 rfl hds rfl ?_
 obtain ⟨T538, h538, X538, e538, W538, st538⟩ := putF X518 hx hZ hown (host := "") (Or.inl (wi hw 82 rfl)) Via.refl e518 f524 f520 (Or.inr ⟨(wi hw 83 rfl), rfl, hnm⟩) (wi hw 35 rfl) (ty := (.object "com/example/mandoline/mandoline/ClangNode")) (by decide) (Rnar hds) (Rfit rfl hds) (g := (mkF m 29 #[vR va, vR nm, .val ds, .val fv, .val cv] [ds, (.ref va)])) rfl rfl (hb hby d34_29)
 have N539 := Fr.snoc X538 N519 gv
 have f540 := f520.wr W538
 have f541 := f521.other W538 (Or.inr (slot_ne (t := (.object "java/util/Map")) (t' := (.object "com/example/mandoline/mandoline/ClangNode")) (Or.inr (wi hw 71 rfl)) (Or.inr (wi hw 83 rfl)) (by decide) (by decide) (by decide)))
 have f543 := f523.other W538 (Or.inr (slot_ne (t := (.object "java/lang/String")) (t' := (.object "com/example/mandoline/mandoline/ClangNode")) (Or.inr (wi hw 81 rfl)) (Or.inr (wi hw 83 rfl)) (by decide) (by decide) (by decide)))
 have f544 := f524.same W538
 have f545 := f525.other W538 (Or.inr (slot_ne (t := (.object "java/lang/String")) (t' := (.object "com/example/mandoline/mandoline/ClangNode")) (Or.inr (wi hw 85 rfl)) (Or.inr (wi hw 83 rfl)) (by decide) (by decide) (by decide)))
 have f546 := f526.other W538 (Or.inr (slot_ne (t := (.object "com/example/mandoline/mandoline/Variable")) (t' := (.object "com/example/mandoline/mandoline/ClangNode")) (Or.inr (wi hw 87 rfl)) (Or.inr (wi hw 83 rfl)) (by decide) (by decide) (by decide)))
 have f547 := f527.wr W538
 have f548 := f528.other W538 (Or.inl (Ne.symm ne441))
 have f549 := f529.other W538 (Or.inl (Ne.symm ne441))
 have f550 := f530.other W538 (Or.inl (Ne.symm ne441))
 have f551 := f531.other W538 (Or.inl (Ne.symm ne441))
 have f552 := f532.other W538 (Or.inl (Ne.symm ne441))
 have f553 := f533.other W538 (Or.inl (Ne.symm ne441))
 have f554 := f534.other W538 (Or.inl (Ne.symm ne441))
 have Kp557 : Keep h0 h538 [va] := Kp537.wr W538 (Or.inl (List.mem_of_getElem? (i := 0) rfl))
 refine Rch.st (fun _ k => st538 _ k) ?_
 show Rch p e below T538 (mkF m 32 #[vR va, vR nm, .val ds, .val fv, .val cv] []) _
 refine w_aloadN (pc' := 33) X538 hx hby d34_32 rfl rfl rfl ?_
 refine w_aloadN (pc' := 34) X538 hx hby d34_33 rfl hfv rfl ?_
 obtain ⟨T558, h558, X558, e558, W558, st558⟩ := putF X538 hx hZ hown (host := "") (Or.inl (wi hw 84 rfl)) Via.refl e538 f545 f540 (Or.inr ⟨(wi hw 85 rfl), rfl, hnm⟩) (wi hw 35 rfl) (ty := (.object "java/lang/String")) (by decide) (Rnar hfv) (Rfit rfl hfv) (g := (mkF m 34 #[vR va, vR nm, .val ds, .val fv, .val cv] [fv, (.ref va)])) rfl rfl (hb hby d34_34)
 have N559 := Fr.snoc X558 N539 gv
 have f560 := f540.wr W558
 have f561 := f541.other W558 (Or.inr (slot_ne (t := (.object "java/util/Map")) (t' := (.object "java/lang/String")) (Or.inr (wi hw 71 rfl)) (Or.inr (wi hw 85 rfl)) (by decide) (by decide) (by decide)))
 have f563 := f543.other W558 (Or.inr (slot_ne (t := (.object "java/lang/String")) (t' := (.object "java/lang/String")) (Or.inr (wi hw 81 rfl)) (Or.inr (wi hw 85 rfl)) (by decide) (by decide) (by decide)))
 have f564 := f544.other W558 (Or.inr (slot_ne (t := (.object "com/example/mandoline/mandoline/ClangNode")) (t' := (.object "java/lang/String")) (Or.inr (wi hw 83 rfl)) (Or.inr (wi hw 85 rfl)) (by decide) (by decide) (by decide)))
 have f565 := f545.same W558
 have f566 := f546.other W558 (Or.inr (slot_ne (t := (.object "com/example/mandoline/mandoline/Variable")) (t' := (.object "java/lang/String")) (Or.inr (wi hw 87 rfl)) (Or.inr (wi hw 85 rfl)) (by decide) (by decide) (by decide)))
 have f567 := f547.wr W558
 have f568 := f548.other W558 (Or.inl (Ne.symm ne441))
 have f569 := f549.other W558 (Or.inl (Ne.symm ne441))
 have f570 := f550.other W558 (Or.inl (Ne.symm ne441))
 have f571 := f551.other W558 (Or.inl (Ne.symm ne441))
 have f572 := f552.other W558 (Or.inl (Ne.symm ne441))
 have f573 := f553.other W558 (Or.inl (Ne.symm ne441))
 have f574 := f554.other W558 (Or.inl (Ne.symm ne441))
 have Kp577 : Keep h0 h558 [va] := Kp557.wr W558 (Or.inl (List.mem_of_getElem? (i := 0) rfl))
 refine Rch.st (fun _ k => st558 _ k) ?_
 show Rch p e below T558 (mkF m 37 #[vR va, vR nm, .val ds, .val fv, .val cv] []) _
 refine w_aloadN (pc' := 38) X558 hx hby d34_37 rfl rfl rfl ?_
 refine w_aload (pc' := 40) X558 hx hby d34_38 rfl hcv rfl ?_
 obtain ⟨T578, h578, X578, e578, W578, st578⟩ := putF X558 hx hZ hown (host := "") (Or.inl (wi hw 86 rfl)) Via.refl e558 f566 f560 (Or.inr ⟨(wi hw 87 rfl), rfl, hnm⟩) (wi hw 35 rfl) (ty := (.object "com/example/mandoline/mandoline/Variable")) (by decide) (Rnar hcv) (Rfit rfl hcv) (g := (mkF m 40 #[vR va, vR nm, .val ds, .val fv, .val cv] [cv, (.ref va)])) rfl rfl (hb hby d34_40)
 have N579 := Fr.snoc X578 N559 gv
 have f581 := f561.other W578 (Or.inr (slot_ne (t := (.object "java/util/Map")) (t' := (.object "com/example/mandoline/mandoline/Variable")) (Or.inr (wi hw 71 rfl)) (Or.inr (wi hw 87 rfl)) (by decide) (by decide) (by decide)))
 have f583 := f563.other W578 (Or.inr (slot_ne (t := (.object "java/lang/String")) (t' := (.object "com/example/mandoline/mandoline/Variable")) (Or.inr (wi hw 81 rfl)) (Or.inr (wi hw 87 rfl)) (by decide) (by decide) (by decide)))
 have f584 := f564.other W578 (Or.inr (slot_ne (t := (.object "com/example/mandoline/mandoline/ClangNode")) (t' := (.object "com/example/mandoline/mandoline/Variable")) (Or.inr (wi hw 83 rfl)) (Or.inr (wi hw 87 rfl)) (by decide) (by decide) (by decide)))
 have f585 := f565.other W578 (Or.inr (slot_ne (t := (.object "java/lang/String")) (t' := (.object "com/example/mandoline/mandoline/Variable")) (Or.inr (wi hw 85 rfl)) (Or.inr (wi hw 87 rfl)) (by decide) (by decide) (by decide)))
 have f586 := f566.same W578
 have f587 := f567.wr W578
 have f588 := f568.other W578 (Or.inl (Ne.symm ne441))
 have f589 := f569.other W578 (Or.inl (Ne.symm ne441))
 have f590 := f570.other W578 (Or.inl (Ne.symm ne441))
 have f591 := f571.other W578 (Or.inl (Ne.symm ne441))
 have f592 := f572.other W578 (Or.inl (Ne.symm ne441))
 have f593 := f573.other W578 (Or.inl (Ne.symm ne441))
 have f594 := f574.other W578 (Or.inl (Ne.symm ne441))
 have Kp597 : Keep h0 h578 [va] := Kp577.wr W578 (Or.inl (List.mem_of_getElem? (i := 0) rfl))
 refine Rch.st (fun _ k => st578 _ k) ?_
 show Rch p e below T578 (mkF m 43 #[vR va, vR nm, .val ds, .val fv, .val cv] []) _
 exact Rch.ret0 X578 hx Bd.returns (hb hby d34_43) (by rw [e578]; exact ⟨a440, rfl, N579, Kp597, (Nat.le_trans K00.1 (Nat.le_of_eq g440.symm)), f581, f583, f585, f586, f584, f587, f588, f589, f590, f591, f592, f593, f594⟩) (by decide) (by decide)

abbrev c35 : ByteArray := jdk_30_method_1_code
theorem d35_0 : decode c35 0 = .ok (.aload_n 0, 1) := by decide +kernel
theorem d35_1 : decode c35 1 = .ok (.invokespecial 1, 3) := by decide +kernel
theorem d35_4 : decode c35 4 = .ok (.return_, 1) := by decide +kernel
theorem pn_java_lang_Record : plainName "java/lang/Record" = true := by first | (simp [plainName, overriddenIn]; done) | decide +kernel
theorem ef_rm_rec (m : MethodId) (io : Addr)  : entryFrame m #[(.ref io)] 1 = mkF m 0 #[vR io] [] := by  first | (simp [entryFrame, mkF, argsToLocals, Value.category, maxLocals]; done) | rfl
def Q_rm_rec (Z : State) (io : Addr) (h0 : Heap) (n0 : Nat) (v : Option Value) (h : Heap) (L : List Loc) : Prop := (v = none) ∧ (Fr n0 L) ∧ (h = h0)
set_option maxRecDepth 65536 in
set_option maxHeartbeats 40000000 in
theorem rm_rec (l : Launch) (Z : State) (a0 : Array Value) (hw : ∀ d ∈ tables_1, d.before a0 Z = true) (ws : List Jvm.Cond) (io : Addr) (h0 : Heap) (n0 : Nat) (Z0 : n0 ≤ h0.size)  :
    MetN l Z y_37 c35 1 none ws (Rm 1 0 0 12) #[(.ref io)] h0 (Q_rm_rec Z io h0 n0) := by
 refine MetFree.of_bodySF (plainFor_of_name pn_java_lang_Record) hisR ?_
 intro p e s m args below meth c s₁ Bd hml0 hP hK
 obtain ⟨rfl, hZ, hh⟩ := hP
 have hx := Bd.exec
 have hby := Bd.bytes
 have hml : c.maxLocals = 1 := hml0
 have hown : s.vm.findClass "java/lang/Record" = some m.cls := findClass_of_methodNamed Bd.named
 have X0 : Stand p l e (Rm 1 0 0 12) s m #[(.ref io)] below meth c s₁ [] 0 0 := Stand.of_body Bd
 have e0 : s₁.heap = h0 := by rw [← hh, Bd.state]; rfl
 have N0 := Fr.nil n0
 have K00 : Keep h0 h0 [] := Keep.refl _ _
 show Rch p e below s₁ (entryFrame m #[(.ref io)] 1) (FinP s (Q_rm_rec Z io h0 n0) 0 0)
 refine Rch.cast (ef_rm_rec m io) ?_
 show Rch p e below s₁ (mkF m 0 #[vR io] []) _
 refine w_aloadN (pc' := 1) X0 hx hby d35_0 rfl rfl rfl ?_
 obtain ⟨T598, X598, e598, st598⟩ := initO X0 hx hZ hown (wi hw 118 rfl) (wi hw 16 rfl) (wi hw 17 rfl) e0 (g := (mkF m 1 #[vR io] [(.ref io)])) rfl (by rw [hml]; rfl) rfl (hb hby d35_1) (by decide) (W := 0) (by show 2 * 0 + _ ≤ _; exact Nat.le_of_eq rfl) (by decide)
 refine Rch.st (fun _ k => st598 _ k) ?_
 show Rch p e below T598 (mkF m 4 #[vR io] []) _
 exact Rch.ret0 X598 hx Bd.returns (hb hby d35_4) (by rw [e598]; exact ⟨rfl, N0, rfl⟩) (by decide) (by decide)

abbrev c36 : ByteArray := prog_39_method_1_code
theorem d36_0 : decode c36 0 = .ok (.aload_n 0, 1) := by decide +kernel
theorem d36_1 : decode c36 1 = .ok (.invokespecial 1, 3) := by decide +kernel
theorem d36_4 : decode c36 4 = .ok (.aload_n 0, 1) := by decide +kernel
theorem d36_5 : decode c36 5 = .ok (.aload_n 1, 1) := by decide +kernel
theorem d36_6 : decode c36 6 = .ok (.putfield 7, 3) := by decide +kernel
theorem d36_9 : decode c36 9 = .ok (.aload_n 0, 1) := by decide +kernel
theorem d36_10 : decode c36 10 = .ok (.aload_n 2, 1) := by decide +kernel
theorem d36_11 : decode c36 11 = .ok (.putfield 13, 3) := by decide +kernel
theorem d36_14 : decode c36 14 = .ok (.return_, 1) := by decide +kernel
theorem pn_com_example_mandoline_mandoline_Place_Field : plainName "com/example/mandoline/mandoline/Place$Field" = true := by first | (simp [plainName, overriddenIn]; done) | decide +kernel
theorem ef_rm_fd (m : MethodId) (fd : Addr) (ky : Addr) (fs : Addr)  : entryFrame m #[(.ref fd), (.ref ky), (.ref fs)] 3 = mkF m 0 #[vR fd, vR ky, vR fs] [] := by  first | (simp [entryFrame, mkF, argsToLocals, Value.category, maxLocals]; done) | rfl
def Q_rm_fd (Z : State) (fd : Addr) (ky : Addr) (fs : Addr) (h0 : Heap) (n0 : Nat) (v : Option Value) (h : Heap) (L : List Loc) : Prop := (v = none) ∧ (Fr n0 L) ∧ (Keep h0 h [fd]) ∧ (Fld Z h fd "com/example/mandoline/mandoline/Place$Field" "key" "Ljava/lang/String;" (.ref ky)) ∧ (Fld Z h fd "com/example/mandoline/mandoline/Place$Field" "name" "Ljava/lang/String;" (.ref fs))
set_option maxRecDepth 65536 in
set_option maxHeartbeats 40000000 in
theorem rm_fd (l : Launch) (Z : State) (a0 : Array Value) (hw : ∀ d ∈ tables_1, d.before a0 Z = true) (ws : List Jvm.Cond) (fd : Addr) (ky : Addr) (fs : Addr) (h0 : Heap) (n0 : Nat) (Z0 : n0 ≤ h0.size) (f0 : Exa Z h0 fd "com/example/mandoline/mandoline/Place$Field") (f1 : Fld Z h0 fd "com/example/mandoline/mandoline/Place$Field" "key" "Ljava/lang/String;" .null) (f2 : Fld Z h0 fd "com/example/mandoline/mandoline/Place$Field" "name" "Ljava/lang/String;" .null) (ga : n0 ≤ fd) :
    MetN l Z y_38 c36 3 none ws (Rm 2 0 0 24) #[(.ref fd), (.ref ky), (.ref fs)] h0 (Q_rm_fd Z fd ky fs h0 n0) := by
 refine MetFree.of_bodySF (plainFor_of_name pn_com_example_mandoline_mandoline_Place_Field) hisR ?_
 intro p e s m args below meth c s₁ Bd hml0 hP hK
 obtain ⟨rfl, hZ, hh⟩ := hP
 have hx := Bd.exec
 have hby := Bd.bytes
 have hml : c.maxLocals = 3 := hml0
 have hown : s.vm.findClass "com/example/mandoline/mandoline/Place$Field" = some m.cls := findClass_of_methodNamed Bd.named
 have hnm := (name_of_methodNamed Bd.named Bd.method).1
 have X0 : Stand p l e (Rm 2 0 0 24) s m #[(.ref fd), (.ref ky), (.ref fs)] below meth c s₁ [] 0 0 := Stand.of_body Bd
 have e0 : s₁.heap = h0 := by rw [← hh, Bd.state]; rfl
 have N0 := Fr.nil n0
 have K00 : Keep h0 h0 [fd] := Keep.refl _ _
 show Rch p e below s₁ (entryFrame m #[(.ref fd), (.ref ky), (.ref fs)] 3) (FinP s (Q_rm_fd Z fd ky fs h0 n0) 0 0)
 refine Rch.cast (ef_rm_fd m fd ky fs) ?_
 show Rch p e below s₁ (mkF m 0 #[vR fd, vR ky, vR fs] []) _
 refine w_aloadN (pc' := 1) X0 hx hby d36_0 rfl rfl rfl ?_
 obtain ⟨_, _, ⟨T599, L599, k599, n599⟩, -, X599, ⟨Lc599, hQ599, l599, y599, z599⟩, st599⟩ := X0.specialBack hx (y := y_37) rfl hown (mvT hZ (wi hw 113 rfl)) (mvT hZ (wi hw 114 rfl)) (mvT hZ (wi hw 117 rfl)) (by decide) (backOf (W := 0) (rm_rec l Z a0 hw [] fd h0 n0 Z0 ) hZ (wi hw 117 rfl) (wi hw 116 rfl) (by decide) (by decide)) (g := (mkF m 1 #[vR fd, vR ky, vR fs] [(.ref fd)])) rfl (by rw [hml]; rfl) (Steps.refl _) (a := fd) (argsL := []) (rest := []) (lenOf pd___V rfl) rfl (by show 2 * 0 + _ ≤ _; exact Nat.le_of_eq rfl) (hb hby d36_1) (fun _ _ => ⟨rfl, e0, (by decide : 0 + 0 ≤ _), (by decide : 0 + 0 ≤ _)⟩)
 dsimp only [Pt.U, Pt.locs, Pt.cells, Pt.slots] at X599 l599 y599 z599 st599 hQ599
 subst l599 y599 z599
 obtain ⟨rfl, NQ599, K599⟩ := hQ599
 have N600 := Fr.app N0 NQ599
 refine Rch.st (fun _ k => st599.trans k) ?_
 show Rch p e below T599 (mkF m 4 #[vR fd, vR ky, vR fs] []) _
 refine w_aloadN (pc' := 5) X599 hx hby d36_4 rfl rfl rfl ?_
 refine w_aloadN (pc' := 6) X599 hx hby d36_5 rfl rfl rfl ?_
 obtain ⟨T601, h601, X601, e601, W601, st601⟩ := putF X599 hx hZ hown (host := "") (Or.inl (wi hw 119 rfl)) Via.refl K599 f1 f0 (Or.inr ⟨(wi hw 120 rfl), rfl, hnm⟩) (wi hw 108 rfl) (ty := (.object "java/lang/String")) (by decide) rfl rfl (g := (mkF m 6 #[vR fd, vR ky, vR fs] [(.ref ky), (.ref fd)])) rfl rfl (hb hby d36_6)
 have N602 := Fr.snoc X601 N600 ga
 have f603 := f0.wr W601
 have f604 := f1.same W601
 have f605 := f2.other W601 (Or.inr (slot_ne (t := (.object "java/lang/String")) (t' := (.object "java/lang/String")) (Or.inr (wi hw 122 rfl)) (Or.inr (wi hw 120 rfl)) (by decide) (by decide) (by decide)))
 have Kp607 : Keep h0 h601 [fd] := K00.wr W601 (Or.inl (List.mem_of_getElem? (i := 0) rfl))
 refine Rch.st (fun _ k => st601 _ k) ?_
 show Rch p e below T601 (mkF m 9 #[vR fd, vR ky, vR fs] []) _
 refine w_aloadN (pc' := 10) X601 hx hby d36_9 rfl rfl rfl ?_
 refine w_aloadN (pc' := 11) X601 hx hby d36_10 rfl rfl rfl ?_
 obtain ⟨T608, h608, X608, e608, W608, st608⟩ := putF X601 hx hZ hown (host := "") (Or.inl (wi hw 121 rfl)) Via.refl e601 f605 f603 (Or.inr ⟨(wi hw 122 rfl), rfl, hnm⟩) (wi hw 108 rfl) (ty := (.object "java/lang/String")) (by decide) rfl rfl (g := (mkF m 11 #[vR fd, vR ky, vR fs] [(.ref fs), (.ref fd)])) rfl rfl (hb hby d36_11)
 have N609 := Fr.snoc X608 N602 ga
 have f611 := f604.other W608 (Or.inr (slot_ne (t := (.object "java/lang/String")) (t' := (.object "java/lang/String")) (Or.inr (wi hw 120 rfl)) (Or.inr (wi hw 122 rfl)) (by decide) (by decide) (by decide)))
 have f612 := f605.same W608
 have Kp614 : Keep h0 h608 [fd] := Kp607.wr W608 (Or.inl (List.mem_of_getElem? (i := 0) rfl))
 refine Rch.st (fun _ k => st608 _ k) ?_
 show Rch p e below T608 (mkF m 14 #[vR fd, vR ky, vR fs] []) _
 exact Rch.ret0 X608 hx Bd.returns (hb hby d36_14) (by rw [e608]; exact ⟨rfl, N609, Kp614, f611, f612⟩) (by decide) (by decide)

abbrev c37 : ByteArray := prog_39_method_5_code
theorem d37_0 : decode c37 0 = .ok (.aload_n 0, 1) := by decide +kernel
theorem d37_1 : decode c37 1 = .ok (.getfield 7, 3) := by decide +kernel
theorem d37_4 : decode c37 4 = .ok (.areturn, 1) := by decide +kernel
theorem ef_rm_ky (m : MethodId) (fd : Addr) (ky : Addr)  : entryFrame m #[(.ref fd)] 1 = mkF m 0 #[vR fd] [] := by  first | (simp [entryFrame, mkF, argsToLocals, Value.category, maxLocals]; done) | rfl
def Q_rm_ky (Z : State) (fd : Addr) (ky : Addr) (h0 : Heap) (n0 : Nat) (v : Option Value) (h : Heap) (L : List Loc) : Prop := (v = some (.ref ky)) ∧ (Fr n0 L) ∧ (h = h0)
set_option maxRecDepth 65536 in
set_option maxHeartbeats 40000000 in
theorem rm_ky (l : Launch) (Z : State) (a0 : Array Value) (hw : ∀ d ∈ tables_1, d.before a0 Z = true) (ws : List Jvm.Cond) (fd : Addr) (ky : Addr) (h0 : Heap) (n0 : Nat) (Z0 : n0 ≤ h0.size) (f0 : Fld Z h0 fd "com/example/mandoline/mandoline/Place$Field" "key" "Ljava/lang/String;" (.ref ky)) :
    MetN l Z y_39 c37 1 (some (.object "java/lang/String")) ws (Rm 0 0 0 0) #[(.ref fd)] h0 (Q_rm_ky Z fd ky h0 n0) := by
 refine MetFree.of_bodySF (plainFor_of_name pn_com_example_mandoline_mandoline_Place_Field) hisR ?_
 intro p e s m args below meth c s₁ Bd hml0 hP hK
 obtain ⟨rfl, hZ, hh⟩ := hP
 have hx := Bd.exec
 have hby := Bd.bytes
 have hml : c.maxLocals = 1 := hml0
 have hown : s.vm.findClass "com/example/mandoline/mandoline/Place$Field" = some m.cls := findClass_of_methodNamed Bd.named
 have X0 : Stand p l e (Rm 0 0 0 0) s m #[(.ref fd)] below meth c s₁ [] 0 0 := Stand.of_body Bd
 have e0 : s₁.heap = h0 := by rw [← hh, Bd.state]; rfl
 have N0 := Fr.nil n0
 have K00 : Keep h0 h0 [] := Keep.refl _ _
 show Rch p e below s₁ (entryFrame m #[(.ref fd)] 1) (FinP s (Q_rm_ky Z fd ky h0 n0) 0 0)
 refine Rch.cast (ef_rm_ky m fd ky) ?_
 show Rch p e below s₁ (mkF m 0 #[vR fd] []) _
 refine w_aloadN (pc' := 1) X0 hx hby d37_0 rfl rfl rfl ?_
 obtain ⟨T615, X615, e615, st615⟩ := getF X0 hx hZ hown (host := "") (Or.inl (wi hw 119 rfl)) Via.refl e0 f0 (g := (mkF m 1 #[vR fd] [(.ref fd)])) rfl rfl (hb hby d37_1)
 refine Rch.st (fun _ k => st615 _ k) ?_
 show Rch p e below T615 (mkF m 4 #[vR fd] [(.ref ky)]) _
 exact Rch.retV X615 hx Bd.returns rfl (Or.inr (Or.inr (Or.inr (Or.inr ⟨rfl, rfl, rfl⟩)))) (hb hby d37_4) (by rw [e615]; exact ⟨rfl, N0, rfl⟩) (by decide) (by decide)

abbrev c38 : ByteArray := prog_39_method_6_code
theorem d38_0 : decode c38 0 = .ok (.aload_n 0, 1) := by decide +kernel
theorem d38_1 : decode c38 1 = .ok (.getfield 13, 3) := by decide +kernel
theorem d38_4 : decode c38 4 = .ok (.areturn, 1) := by decide +kernel
theorem ef_rm_nm (m : MethodId) (fd : Addr) (fs : Addr)  : entryFrame m #[(.ref fd)] 1 = mkF m 0 #[vR fd] [] := by  first | (simp [entryFrame, mkF, argsToLocals, Value.category, maxLocals]; done) | rfl
def Q_rm_nm (Z : State) (fd : Addr) (fs : Addr) (h0 : Heap) (n0 : Nat) (v : Option Value) (h : Heap) (L : List Loc) : Prop := (v = some (.ref fs)) ∧ (Fr n0 L) ∧ (h = h0)
set_option maxRecDepth 65536 in
set_option maxHeartbeats 40000000 in
theorem rm_nm (l : Launch) (Z : State) (a0 : Array Value) (hw : ∀ d ∈ tables_1, d.before a0 Z = true) (ws : List Jvm.Cond) (fd : Addr) (fs : Addr) (h0 : Heap) (n0 : Nat) (Z0 : n0 ≤ h0.size) (f0 : Fld Z h0 fd "com/example/mandoline/mandoline/Place$Field" "name" "Ljava/lang/String;" (.ref fs)) :
    MetN l Z y_40 c38 1 (some (.object "java/lang/String")) ws (Rm 0 0 0 0) #[(.ref fd)] h0 (Q_rm_nm Z fd fs h0 n0) := by
 refine MetFree.of_bodySF (plainFor_of_name pn_com_example_mandoline_mandoline_Place_Field) hisR ?_
 intro p e s m args below meth c s₁ Bd hml0 hP hK
 obtain ⟨rfl, hZ, hh⟩ := hP
 have hx := Bd.exec
 have hby := Bd.bytes
 have hml : c.maxLocals = 1 := hml0
 have hown : s.vm.findClass "com/example/mandoline/mandoline/Place$Field" = some m.cls := findClass_of_methodNamed Bd.named
 have X0 : Stand p l e (Rm 0 0 0 0) s m #[(.ref fd)] below meth c s₁ [] 0 0 := Stand.of_body Bd
 have e0 : s₁.heap = h0 := by rw [← hh, Bd.state]; rfl
 have N0 := Fr.nil n0
 have K00 : Keep h0 h0 [] := Keep.refl _ _
 show Rch p e below s₁ (entryFrame m #[(.ref fd)] 1) (FinP s (Q_rm_nm Z fd fs h0 n0) 0 0)
 refine Rch.cast (ef_rm_nm m fd fs) ?_
 show Rch p e below s₁ (mkF m 0 #[vR fd] []) _
 refine w_aloadN (pc' := 1) X0 hx hby d38_0 rfl rfl rfl ?_
 obtain ⟨T616, X616, e616, st616⟩ := getF X0 hx hZ hown (host := "") (Or.inl (wi hw 121 rfl)) Via.refl e0 f0 (g := (mkF m 1 #[vR fd] [(.ref fd)])) rfl rfl (hb hby d38_1)
 refine Rch.st (fun _ k => st616 _ k) ?_
 show Rch p e below T616 (mkF m 4 #[vR fd] [(.ref fs)]) _
 exact Rch.retV X616 hx Bd.returns rfl (Or.inr (Or.inr (Or.inr (Or.inr ⟨rfl, rfl, rfl⟩)))) (hb hby d38_4) (by rw [e616]; exact ⟨rfl, N0, rfl⟩) (by decide) (by decide)

abbrev c39 : ByteArray := jdk_42_method_55_code
theorem d39_0 : decode c39 0 = .ok (.aload_n 0, 1) := by decide +kernel
theorem d39_1 : decode c39 1 = .ok (.getfield 9, 3) := by decide +kernel
theorem d39_4 : decode c39 4 = .ok (.arraylength, 1) := by decide +kernel
theorem d39_5 : decode c39 5 = .ok (.ifCond .ne 7, 3) := by decide +kernel
theorem d39_8 : decode c39 8 = .ok (.iconst 1, 1) := by decide +kernel
theorem d39_9 : decode c39 9 = .ok (.goto 4, 3) := by decide +kernel
theorem d39_12 : decode c39 12 = .ok (.iconst 0, 1) := by decide +kernel
theorem d39_13 : decode c39 13 = .ok (.ireturn, 1) := by decide +kernel
theorem ef_rm_ie0 (m : MethodId) (aa : Addr) (bb : Addr) (kb : ClassId) (vs : List Value) (dd : Value)  : entryFrame m #[(.ref aa)] 1 = mkF m 0 #[vR aa] [] := by  first | (simp [entryFrame, mkF, argsToLocals, Value.category, maxLocals]; done) | rfl
def Q_rm_ie0 (Z : State) (aa : Addr) (bb : Addr) (kb : ClassId) (vs : List Value) (dd : Value) (h0 : Heap) (n0 : Nat) (v : Option Value) (h : Heap) (L : List Loc) : Prop := (v = some (.int (1 : Int32))) ∧ (Fr n0 L) ∧ (h = h0)
set_option maxRecDepth 65536 in
set_option maxHeartbeats 40000000 in
theorem rm_ie0 (l : Launch) (Z : State) (a0 : Array Value) (hw : ∀ d ∈ tables_1, d.before a0 Z = true) (ws : List Jvm.Cond) (aa : Addr) (bb : Addr) (kb : ClassId) (vs : List Value) (dd : Value) (h0 : Heap) (n0 : Nat) (Z0 : n0 ≤ h0.size) (f0 : Fld Z h0 aa "java/lang/String" "value" "[B" (.ref bb)) (f1 : Arv Z h0 bb kb .byte (0 : Int32) vs dd) :
    MetN l Z y_41 c39 1 (some .boolean) ws (Rm 0 0 0 0) #[(.ref aa)] h0 (Q_rm_ie0 Z aa bb kb vs dd h0 n0) := by
 refine MetFree.of_bodySF (plainFor_of_name pn_java_lang_String) hisR ?_
 intro p e s m args below meth c s₁ Bd hml0 hP hK
 obtain ⟨rfl, hZ, hh⟩ := hP
 have hx := Bd.exec
 have hby := Bd.bytes
 have hml : c.maxLocals = 1 := hml0
 have hown : s.vm.findClass "java/lang/String" = some m.cls := findClass_of_methodNamed Bd.named
 have X0 : Stand p l e (Rm 0 0 0 0) s m #[(.ref aa)] below meth c s₁ [] 0 0 := Stand.of_body Bd
 have e0 : s₁.heap = h0 := by rw [← hh, Bd.state]; rfl
 have N0 := Fr.nil n0
 have K00 : Keep h0 h0 [] := Keep.refl _ _
 show Rch p e below s₁ (entryFrame m #[(.ref aa)] 1) (FinP s (Q_rm_ie0 Z aa bb kb vs dd h0 n0) 0 0)
 refine Rch.cast (ef_rm_ie0 m aa bb kb vs dd) ?_
 show Rch p e below s₁ (mkF m 0 #[vR aa] []) _
 refine w_aloadN (pc' := 1) X0 hx hby d39_0 rfl rfl rfl ?_
 obtain ⟨T617, X617, e617, st617⟩ := getF X0 hx hZ hown (host := "") (Or.inl (wi hw 32 rfl)) Via.refl e0 f0 (g := (mkF m 1 #[vR aa] [(.ref aa)])) rfl rfl (hb hby d39_1)
 refine Rch.st (fun _ k => st617 _ k) ?_
 show Rch p e below T617 (mkF m 4 #[vR aa] [(.ref bb)]) _
 refine Rch.st (fun _ k => own_alen X617 hx hZ e617 f1 rfl rfl (hb hby d39_4) k) ?_
 show Rch p e below T617 (mkF m 5 #[vR aa] [(.int 0)]) _
 refine w_ifNo (pc' := 8) X617 hx hby d39_5 (XT.i0_ne_f (by decide)) rfl ?_
 refine w_iconst (pc' := 9) (v := 1) X617 hx hby d39_8 rfl rfl ?_
 refine w_goto (pc' := 13) X617 hx hby d39_9 (by decide) ?_
 exact Rch.retV X617 hx Bd.returns rfl (Or.inl ⟨rfl, by simp, _, rfl⟩) (hb hby d39_13) (by rw [e617]; exact ⟨rfl, N0, rfl⟩) (by decide) (by decide)

theorem ef_rm_ie2 (m : MethodId) (aa : Addr) (bb : Addr) (kb : ClassId) (vs : List Value) (dd : Value)  : entryFrame m #[(.ref aa)] 1 = mkF m 0 #[vR aa] [] := by  first | (simp [entryFrame, mkF, argsToLocals, Value.category, maxLocals]; done) | rfl
def Q_rm_ie2 (Z : State) (aa : Addr) (bb : Addr) (kb : ClassId) (vs : List Value) (dd : Value) (h0 : Heap) (n0 : Nat) (v : Option Value) (h : Heap) (L : List Loc) : Prop := (v = some (.int (0 : Int32))) ∧ (Fr n0 L) ∧ (h = h0)
set_option maxRecDepth 65536 in
set_option maxHeartbeats 40000000 in
theorem rm_ie2 (l : Launch) (Z : State) (a0 : Array Value) (hw : ∀ d ∈ tables_1, d.before a0 Z = true) (ws : List Jvm.Cond) (aa : Addr) (bb : Addr) (kb : ClassId) (vs : List Value) (dd : Value) (h0 : Heap) (n0 : Nat) (Z0 : n0 ≤ h0.size) (f0 : Fld Z h0 aa "java/lang/String" "value" "[B" (.ref bb)) (f1 : Arv Z h0 bb kb .byte (2 : Int32) vs dd) :
    MetN l Z y_41 c39 1 (some .boolean) ws (Rm 0 0 0 0) #[(.ref aa)] h0 (Q_rm_ie2 Z aa bb kb vs dd h0 n0) := by
 refine MetFree.of_bodySF (plainFor_of_name pn_java_lang_String) hisR ?_
 intro p e s m args below meth c s₁ Bd hml0 hP hK
 obtain ⟨rfl, hZ, hh⟩ := hP
 have hx := Bd.exec
 have hby := Bd.bytes
 have hml : c.maxLocals = 1 := hml0
 have hown : s.vm.findClass "java/lang/String" = some m.cls := findClass_of_methodNamed Bd.named
 have X0 : Stand p l e (Rm 0 0 0 0) s m #[(.ref aa)] below meth c s₁ [] 0 0 := Stand.of_body Bd
 have e0 : s₁.heap = h0 := by rw [← hh, Bd.state]; rfl
 have N0 := Fr.nil n0
 have K00 : Keep h0 h0 [] := Keep.refl _ _
 show Rch p e below s₁ (entryFrame m #[(.ref aa)] 1) (FinP s (Q_rm_ie2 Z aa bb kb vs dd h0 n0) 0 0)
 refine Rch.cast (ef_rm_ie2 m aa bb kb vs dd) ?_
 show Rch p e below s₁ (mkF m 0 #[vR aa] []) _
 refine w_aloadN (pc' := 1) X0 hx hby d39_0 rfl rfl rfl ?_
 obtain ⟨T618, X618, e618, st618⟩ := getF X0 hx hZ hown (host := "") (Or.inl (wi hw 32 rfl)) Via.refl e0 f0 (g := (mkF m 1 #[vR aa] [(.ref aa)])) rfl rfl (hb hby d39_1)
 refine Rch.st (fun _ k => st618 _ k) ?_
 show Rch p e below T618 (mkF m 4 #[vR aa] [(.ref bb)]) _
 refine Rch.st (fun _ k => own_alen X618 hx hZ e618 f1 rfl rfl (hb hby d39_4) k) ?_
 show Rch p e below T618 (mkF m 5 #[vR aa] [(.int 2)]) _
 refine w_ifYes (pc' := 12) X618 hx hby d39_5 (XT.i0_ne_t (by decide)) (by decide) ?_
 refine w_iconst (pc' := 13) (v := 0) X618 hx hby d39_12 rfl rfl ?_
 exact Rch.retV X618 hx Bd.returns rfl (Or.inl ⟨rfl, by simp, _, rfl⟩) (hb hby d39_13) (by rw [e618]; exact ⟨rfl, N0, rfl⟩) (by decide) (by decide)

abbrev c40 : ByteArray := jdk_48_method_5_code
theorem d40_0 : decode c40 0 = .ok (.iload_n 2, 1) := by decide +kernel
theorem d40_1 : decode c40 1 = .ok (.iload_n 3, 1) := by decide +kernel
theorem d40_2 : decode c40 2 = .ok (.iadd, 1) := by decide +kernel
theorem d40_3 : decode c40 3 = .ok (.istore 4, 2) := by decide +kernel
theorem d40_5 : decode c40 5 = .ok (.iload_n 2, 1) := by decide +kernel
theorem d40_6 : decode c40 6 = .ok (.istore 5, 2) := by decide +kernel
theorem d40_8 : decode c40 8 = .ok (.iload 5, 2) := by decide +kernel
theorem d40_10 : decode c40 10 = .ok (.iload 4, 2) := by decide +kernel
theorem d40_12 : decode c40 12 = .ok (.if_icmp .ge 23, 3) := by decide +kernel
theorem d40_15 : decode c40 15 = .ok (.bipush 31, 2) := by decide +kernel
theorem d40_17 : decode c40 17 = .ok (.iload_n 0, 1) := by decide +kernel
theorem d40_18 : decode c40 18 = .ok (.imul, 1) := by decide +kernel
theorem d40_19 : decode c40 19 = .ok (.aload_n 1, 1) := by decide +kernel
theorem d40_20 : decode c40 20 = .ok (.iload 5, 2) := by decide +kernel
theorem d40_22 : decode c40 22 = .ok (.baload, 1) := by decide +kernel
theorem d40_23 : decode c40 23 = .ok (.sipush 255, 3) := by decide +kernel
theorem d40_26 : decode c40 26 = .ok (.iand, 1) := by decide +kernel
theorem d40_27 : decode c40 27 = .ok (.iadd, 1) := by decide +kernel
theorem d40_28 : decode c40 28 = .ok (.istore_n 0, 1) := by decide +kernel
theorem d40_29 : decode c40 29 = .ok (.iinc 5 1, 3) := by decide +kernel
theorem d40_32 : decode c40 32 = .ok (.goto (-24), 3) := by decide +kernel
theorem d40_35 : decode c40 35 = .ok (.iload_n 0, 1) := by decide +kernel
theorem d40_36 : decode c40 36 = .ok (.ireturn, 1) := by decide +kernel
theorem pn_jdk_internal_util_ArraysSupport : plainName "jdk/internal/util/ArraysSupport" = true := by first | (simp [plainName, overriddenIn]; done) | decide +kernel
theorem ef_rm_shc (m : MethodId) (kb : Addr) (kkb : ClassId) (b0 : Int32) (b1 : Int32)  : entryFrame m #[(.int (0 : Int32)), (.ref kb), (.int (0 : Int32)), (.int (2 : Int32))] 6 = mkF m 0 #[vI 0, vR kb, vI 0, vI 2, U, U] [] := by  first | (simp [entryFrame, mkF, argsToLocals, Value.category, maxLocals]; done) | rfl
def Q_rm_shc (Z : State) (kb : Addr) (kkb : ClassId) (b0 : Int32) (b1 : Int32) (h0 : Heap) (n0 : Nat) (v : Option Value) (h : Heap) (L : List Loc) : Prop := ∃ (r : Int32), (v = some (.int r)) ∧ (Fr n0 L) ∧ (h = h0)
set_option maxRecDepth 65536 in
set_option maxHeartbeats 40000000 in
theorem rm_shc (l : Launch) (Z : State) (a0 : Array Value) (hw : ∀ d ∈ tables_1, d.before a0 Z = true) (ws : List Jvm.Cond) (kb : Addr) (kkb : ClassId) (b0 : Int32) (b1 : Int32) (h0 : Heap) (n0 : Nat) (Z0 : n0 ≤ h0.size) (f0 : Arv Z h0 kb kkb .byte (2 : Int32) [(.int b0), (.int b1)] (.int (0 : Int32))) :
    MetN l Z y_42 c40 6 (some .int) ws (Rm 0 0 0 0) #[(.int (0 : Int32)), (.ref kb), (.int (0 : Int32)), (.int (2 : Int32))] h0 (Q_rm_shc Z kb kkb b0 b1 h0 n0) := by
 refine MetFree.of_bodySF (plainFor_of_name pn_jdk_internal_util_ArraysSupport) hisR ?_
 intro p e s m args below meth c s₁ Bd hml0 hP hK
 obtain ⟨rfl, hZ, hh⟩ := hP
 have hx := Bd.exec
 have hby := Bd.bytes
 have hml : c.maxLocals = 6 := hml0
 have hown : s.vm.findClass "jdk/internal/util/ArraysSupport" = some m.cls := findClass_of_methodNamed Bd.named
 have X0 : Stand p l e (Rm 0 0 0 0) s m #[(.int (0 : Int32)), (.ref kb), (.int (0 : Int32)), (.int (2 : Int32))] below meth c s₁ [] 0 0 := Stand.of_body Bd
 have e0 : s₁.heap = h0 := by rw [← hh, Bd.state]; rfl
 have N0 := Fr.nil n0
 have K00 : Keep h0 h0 [] := Keep.refl _ _
 show Rch p e below s₁ (entryFrame m #[(.int (0 : Int32)), (.ref kb), (.int (0 : Int32)), (.int (2 : Int32))] 6) (FinP s (Q_rm_shc Z kb kkb b0 b1 h0 n0) 0 0)
 refine Rch.cast (ef_rm_shc m kb kkb b0 b1) ?_
 show Rch p e below s₁ (mkF m 0 #[vI 0, vR kb, vI 0, vI 2, U, U] []) _
 refine w_iloadN (pc' := 1) X0 hx hby d40_0 rfl rfl ?_
 refine w_iloadN (pc' := 2) X0 hx hby d40_1 rfl rfl ?_
 refine w_iadd (pc' := 3) X0 hx hby d40_2 rfl ?_
 refine w_istore (pc' := 5) (l' := #[vI 0, vR kb, vI 0, vI 2, vI ((0 : Int32) + (2 : Int32)), U]) X0 hx hby d40_3 rfl rfl ?_
 refine w_iloadN (pc' := 6) X0 hx hby d40_5 rfl rfl ?_
 refine w_istore (pc' := 8) (l' := #[vI 0, vR kb, vI 0, vI 2, vI ((0 : Int32) + (2 : Int32)), vI 0]) X0 hx hby d40_6 rfl rfl ?_
 refine w_iload (pc' := 10) X0 hx hby d40_8 rfl rfl ?_
 refine w_iload (pc' := 12) X0 hx hby d40_10 rfl rfl ?_
 rw [show ((0 : Int32) + (2 : Int32)) = (2 : Int32) from by decide]
 show Rch p e below s₁ (mkF m 12 #[vI 0, vR kb, vI 0, vI 2, vI 2, vI 0] [(.int 2), (.int 0)]) _
 refine w_icmpNo (pc' := 15) X0 hx hby d40_12 (XT.ii_ge_f (by decide)) rfl ?_
 refine w_bipush (pc' := 17) (v := 31) X0 hx hby d40_15 rfl rfl ?_
 refine w_iloadN (pc' := 18) X0 hx hby d40_17 rfl rfl ?_
 refine w_imul (pc' := 19) X0 hx hby d40_18 rfl ?_
 refine w_aloadN (pc' := 20) X0 hx hby d40_19 rfl rfl rfl ?_
 refine w_iload (pc' := 22) X0 hx hby d40_20 rfl rfl ?_
 refine Rch.st (fun _ k => own_ldB X0 hx hZ e0 f0 (j := (0 : Int32)) ⟨by decide, by decide⟩ (by rfl) rfl rfl (hb hby d40_22) k) ?_
 show Rch p e below s₁ (mkF m 23 #[vI 0, vR kb, vI 0, vI 2, vI 2, vI 0] [(.int b0), (.int ((31 : Int32) * (0 : Int32)))]) _
 refine w_sipush (pc' := 26) (v := 255) X0 hx hby d40_23 rfl rfl ?_
 refine w_iand (pc' := 27) X0 hx hby d40_26 rfl ?_
 refine w_iadd (pc' := 28) X0 hx hby d40_27 rfl ?_
 refine w_istoreN (pc' := 29) (l' := #[vI (((31 : Int32) * (0 : Int32)) + (b0 &&& (255 : Int32))), vR kb, vI 0, vI 2, vI 2, vI 0]) X0 hx hby d40_28 rfl rfl ?_
 refine w_iinc (pc' := 32) (w := (1 : Int32)) (l' := #[vI (((31 : Int32) * (0 : Int32)) + (b0 &&& (255 : Int32))), vR kb, vI 0, vI 2, vI 2, vI 1]) X0 hx hby d40_29 rfl (by decide) rfl rfl ?_
 refine w_goto (pc' := 8) X0 hx hby d40_32 (by decide) ?_
 refine w_iload (pc' := 10) X0 hx hby d40_8 rfl rfl ?_
 refine w_iload (pc' := 12) X0 hx hby d40_10 rfl rfl ?_
 refine w_icmpNo (pc' := 15) X0 hx hby d40_12 (XT.ii_ge_f (by decide)) rfl ?_
 refine w_bipush (pc' := 17) (v := 31) X0 hx hby d40_15 rfl rfl ?_
 refine w_iloadN (pc' := 18) X0 hx hby d40_17 rfl rfl ?_
 refine w_imul (pc' := 19) X0 hx hby d40_18 rfl ?_
 refine w_aloadN (pc' := 20) X0 hx hby d40_19 rfl rfl rfl ?_
 refine w_iload (pc' := 22) X0 hx hby d40_20 rfl rfl ?_
 refine Rch.st (fun _ k => own_ldB X0 hx hZ e0 f0 (j := (1 : Int32)) ⟨by decide, by decide⟩ (by rfl) rfl rfl (hb hby d40_22) k) ?_
 show Rch p e below s₁ (mkF m 23 #[vI (((31 : Int32) * (0 : Int32)) + (b0 &&& (255 : Int32))), vR kb, vI 0, vI 2, vI 2, vI 1] [(.int b1), (.int ((31 : Int32) * (((31 : Int32) * (0 : Int32)) + (b0 &&& (255 : Int32)))))]) _
 refine w_sipush (pc' := 26) (v := 255) X0 hx hby d40_23 rfl rfl ?_
 refine w_iand (pc' := 27) X0 hx hby d40_26 rfl ?_
 refine w_iadd (pc' := 28) X0 hx hby d40_27 rfl ?_
 refine w_istoreN (pc' := 29) (l' := #[vI (((31 : Int32) * (((31 : Int32) * (0 : Int32)) + (b0 &&& (255 : Int32)))) + (b1 &&& (255 : Int32))), vR kb, vI 0, vI 2, vI 2, vI 1]) X0 hx hby d40_28 rfl rfl ?_
 refine w_iinc (pc' := 32) (w := (2 : Int32)) (l' := #[vI (((31 : Int32) * (((31 : Int32) * (0 : Int32)) + (b0 &&& (255 : Int32)))) + (b1 &&& (255 : Int32))), vR kb, vI 0, vI 2, vI 2, vI 2]) X0 hx hby d40_29 rfl (by decide) rfl rfl ?_
 refine w_goto (pc' := 8) X0 hx hby d40_32 (by decide) ?_
 refine w_iload (pc' := 10) X0 hx hby d40_8 rfl rfl ?_
 refine w_iload (pc' := 12) X0 hx hby d40_10 rfl rfl ?_
 refine w_icmpYes (pc' := 35) X0 hx hby d40_12 (XT.ii_ge_t (by decide)) (by decide) ?_
 refine w_iloadN (pc' := 36) X0 hx hby d40_35 rfl rfl ?_
 exact Rch.retV X0 hx Bd.returns rfl (Or.inl ⟨rfl, by simp, _, rfl⟩) (hb hby d40_36) (by rw [e0]; exact ⟨(((31 : Int32) * (((31 : Int32) * (0 : Int32)) + (b0 &&& (255 : Int32)))) + (b1 &&& (255 : Int32))), rfl, N0, rfl⟩) (by decide) (by decide)

abbrev c41 : ByteArray := jdk_48_method_4_code
theorem d41_0 : decode c41 0 = .ok (.iload 4, 2) := by decide +kernel
theorem d41_2 : decode c41 2 = .ok (.tableswitch 127 4 10 #[42, 55, 127, 127, 88, 101, 114], 42) := by decide +kernel
theorem d41_44 : decode c41 44 = .ok (.iload_n 3, 1) := by decide +kernel
theorem d41_45 : decode c41 45 = .ok (.aload_n 0, 1) := by decide +kernel
theorem d41_46 : decode c41 46 = .ok (.checkcast 60, 3) := by decide +kernel
theorem d41_49 : decode c41 49 = .ok (.iload_n 1, 1) := by decide +kernel
theorem d41_50 : decode c41 50 = .ok (.iload_n 2, 1) := by decide +kernel
theorem d41_51 : decode c41 51 = .ok (.invokestatic 62, 3) := by decide +kernel
theorem d41_54 : decode c41 54 = .ok (.goto 103, 3) := by decide +kernel
theorem d41_157 : decode c41 157 = .ok (.ireturn, 1) := by decide +kernel
theorem ef_rm_vhc (m : MethodId) (kb : Addr) (kkb : ClassId) (b0 : Int32) (b1 : Int32)  : entryFrame m #[(.ref kb), (.int (0 : Int32)), (.int (2 : Int32)), (.int (0 : Int32)), (.int (4 : Int32))] 5 = mkF m 0 #[vR kb, vI 0, vI 2, vI 0, vI 4] [] := by  first | (simp [entryFrame, mkF, argsToLocals, Value.category, maxLocals]; done) | rfl
def Q_rm_vhc (Z : State) (kb : Addr) (kkb : ClassId) (b0 : Int32) (b1 : Int32) (h0 : Heap) (n0 : Nat) (v : Option Value) (h : Heap) (L : List Loc) : Prop := ∃ (r : Int32), (v = some (.int r)) ∧ (Fr n0 L) ∧ (h = h0)
theorem pd__I_BII_I : parseMethodDescriptor "(I[BII)I" = some ⟨[.int, (.array .byte), .int, .int], (some .int)⟩ := by decide +kernel
set_option maxRecDepth 65536 in
set_option maxHeartbeats 40000000 in
theorem rm_vhc (l : Launch) (Z : State) (a0 : Array Value) (hw : ∀ d ∈ tables_1, d.before a0 Z = true) (ws : List Jvm.Cond) (kb : Addr) (kkb : ClassId) (b0 : Int32) (b1 : Int32) (h0 : Heap) (n0 : Nat) (Z0 : n0 ≤ h0.size) (f0 : Arv Z h0 kb kkb .byte (2 : Int32) [(.int b0), (.int b1)] (.int (0 : Int32))) (f1 : Exa Z h0 kb "[B") :
    MetN l Z y_43 c41 5 (some .int) ws (Rm 1 0 0 17) #[(.ref kb), (.int (0 : Int32)), (.int (2 : Int32)), (.int (0 : Int32)), (.int (4 : Int32))] h0 (Q_rm_vhc Z kb kkb b0 b1 h0 n0) := by
 refine MetFree.of_bodySF (plainFor_of_name pn_jdk_internal_util_ArraysSupport) hisR ?_
 intro p e s m args below meth c s₁ Bd hml0 hP hK
 obtain ⟨rfl, hZ, hh⟩ := hP
 have hx := Bd.exec
 have hby := Bd.bytes
 have hml : c.maxLocals = 5 := hml0
 have hown : s.vm.findClass "jdk/internal/util/ArraysSupport" = some m.cls := findClass_of_methodNamed Bd.named
 have X0 : Stand p l e (Rm 1 0 0 17) s m #[(.ref kb), (.int (0 : Int32)), (.int (2 : Int32)), (.int (0 : Int32)), (.int (4 : Int32))] below meth c s₁ [] 0 0 := Stand.of_body Bd
 have e0 : s₁.heap = h0 := by rw [← hh, Bd.state]; rfl
 have N0 := Fr.nil n0
 have K00 : Keep h0 h0 [] := Keep.refl _ _
 show Rch p e below s₁ (entryFrame m #[(.ref kb), (.int (0 : Int32)), (.int (2 : Int32)), (.int (0 : Int32)), (.int (4 : Int32))] 5) (FinP s (Q_rm_vhc Z kb kkb b0 b1 h0 n0) 0 0)
 refine Rch.cast (ef_rm_vhc m kb kkb b0 b1) ?_
 show Rch p e below s₁ (mkF m 0 #[vR kb, vI 0, vI 2, vI 0, vI 4] []) _
 refine w_iload (pc' := 2) X0 hx hby d41_0 rfl rfl ?_
 refine Rch.st (fun _ k => XS.tswIn X0.here hx rfl (pc0 := 2) rfl (hb hby d41_2) rfl (by decide) (o := 42) (by decide) (by decide) (pc' := 44) (by decide) k) ?_
 show Rch p e below s₁ (mkF m 44 #[vR kb, vI 0, vI 2, vI 0, vI 4] []) _
 refine w_iloadN (pc' := 45) X0 hx hby d41_44 rfl rfl ?_
 refine w_aloadN (pc' := 46) X0 hx hby d41_45 rfl rfl rfl ?_
 obtain ⟨T619, X619, e619, st619⟩ := castY X0 hx hZ hown (wi hw 172 rfl) e0 (Ins.self f1) (g := (mkF m 46 #[vR kb, vI 0, vI 2, vI 0, vI 4] [(.ref kb), (.int 0)])) rfl rfl (hb hby d41_46)
 refine Rch.st (fun _ k => st619 _ k) ?_
 show Rch p e below T619 (mkF m 49 #[vR kb, vI 0, vI 2, vI 0, vI 4] [(.ref kb), (.int 0)]) _
 refine w_iloadN (pc' := 50) X619 hx hby d41_49 rfl rfl ?_
 refine w_iloadN (pc' := 51) X619 hx hby d41_50 rfl rfl ?_
 obtain ⟨_, _, ⟨T620, L620, k620, n620⟩, -, X620, ⟨Lc620, hQ620, l620, y620, z620⟩, st620⟩ := Jvm.LawKit.callS X619 hx (y := y_42) hown (mvT hZ (wi hw 174 rfl)) (mvT hZ (wi hw 175 rfl)) (mvT hZ (wi hw 170 rfl)) (mvT hZ (wi hw 176 rfl)) (by decide) (backOf (W := 0) (rm_shc l Z a0 hw [] kb kkb b0 b1 h0 n0 Z0 f0) hZ (wi hw 176 rfl) (wi hw 170 rfl) (by decide) (by decide)) (g := (mkF m 51 #[vR kb, vI 0, vI 2, vI 0, vI 4] [(.int 2), (.int 0), (.ref kb), (.int 0)])) rfl (by rw [hml]; rfl) (argsL := [(.int 0), (.ref kb), (.int 0), (.int 2)]) (rest := []) (lenOf pd__I_BII_I rfl) rfl (by show 2 * 0 + _ ≤ _; exact Nat.le_of_eq rfl) (hb hby d41_51) (fun _ _ => ⟨rfl, e619, (by decide : 0 + 0 ≤ _), (by decide : 0 + 0 ≤ _)⟩)
 dsimp only [Pt.U, Pt.locs, Pt.cells, Pt.slots] at X620 l620 y620 z620 st620 hQ620
 subst l620 y620 z620
 obtain ⟨r_620, rfl, NQ620, K620⟩ := hQ620
 have N621 := Fr.app N0 NQ620
 refine Rch.st (fun _ k => st620 _ k) ?_
 show Rch p e below T620 (mkF m 54 #[vR kb, vI 0, vI 2, vI 0, vI 4] [(.int r_620)]) _
 refine w_goto (pc' := 157) X620 hx hby d41_54 (by decide) ?_
 exact Rch.retV X620 hx Bd.returns rfl (Or.inl ⟨rfl, by simp, _, rfl⟩) (hb hby d41_157) (by rw [K620]; exact ⟨r_620, rfl, N621, rfl⟩) (by decide) (by decide)

abbrev c42 : ByteArray := jdk_43_method_21_code
theorem d42_0 : decode c42 0 = .ok (.aload_n 0, 1) := by decide +kernel
theorem d42_1 : decode c42 1 = .ok (.arraylength, 1) := by decide +kernel
theorem d42_2 : decode c42 2 = .ok (.lookupswitch 40 #[(0, 26), (1, 30)], 26) := by decide +kernel
theorem d42_42 : decode c42 42 = .ok (.aload_n 0, 1) := by decide +kernel
theorem d42_43 : decode c42 43 = .ok (.iconst 0, 1) := by decide +kernel
theorem d42_44 : decode c42 44 = .ok (.aload_n 0, 1) := by decide +kernel
theorem d42_45 : decode c42 45 = .ok (.arraylength, 1) := by decide +kernel
theorem d42_46 : decode c42 46 = .ok (.iconst 0, 1) := by decide +kernel
theorem d42_47 : decode c42 47 = .ok (.iconst 4, 1) := by decide +kernel
theorem d42_48 : decode c42 48 = .ok (.invokestatic 84, 3) := by decide +kernel
theorem d42_51 : decode c42 51 = .ok (.ireturn, 1) := by decide +kernel
theorem pn_java_lang_StringLatin1 : plainName "java/lang/StringLatin1" = true := by first | (simp [plainName, overriddenIn]; done) | decide +kernel
theorem ef_rm_lhc (m : MethodId) (kb : Addr) (kkb : ClassId) (b0 : Int32) (b1 : Int32)  : entryFrame m #[(.ref kb)] 1 = mkF m 0 #[vR kb] [] := by  first | (simp [entryFrame, mkF, argsToLocals, Value.category, maxLocals]; done) | rfl
def Q_rm_lhc (Z : State) (kb : Addr) (kkb : ClassId) (b0 : Int32) (b1 : Int32) (h0 : Heap) (n0 : Nat) (v : Option Value) (h : Heap) (L : List Loc) : Prop := ∃ (r : Int32), (v = some (.int r)) ∧ (Fr n0 L) ∧ (h = h0)
theorem pd__Ljava_lang_Object_IIII_I : parseMethodDescriptor "(Ljava/lang/Object;IIII)I" = some ⟨[(.object "java/lang/Object"), .int, .int, .int, .int], (some .int)⟩ := by decide +kernel
set_option maxRecDepth 65536 in
set_option maxHeartbeats 40000000 in
theorem rm_lhc (l : Launch) (Z : State) (a0 : Array Value) (hw : ∀ d ∈ tables_1, d.before a0 Z = true) (ws : List Jvm.Cond) (kb : Addr) (kkb : ClassId) (b0 : Int32) (b1 : Int32) (h0 : Heap) (n0 : Nat) (Z0 : n0 ≤ h0.size) (f0 : Arv Z h0 kb kkb .byte (2 : Int32) [(.int b0), (.int b1)] (.int (0 : Int32))) (f1 : Exa Z h0 kb "[B") :
    MetN l Z y_44 c42 1 (some .int) ws (Rm 2 0 0 33) #[(.ref kb)] h0 (Q_rm_lhc Z kb kkb b0 b1 h0 n0) := by
 refine MetFree.of_bodySF (plainFor_of_name pn_java_lang_StringLatin1) hisR ?_
 intro p e s m args below meth c s₁ Bd hml0 hP hK
 obtain ⟨rfl, hZ, hh⟩ := hP
 have hx := Bd.exec
 have hby := Bd.bytes
 have hml : c.maxLocals = 1 := hml0
 have hown : s.vm.findClass "java/lang/StringLatin1" = some m.cls := findClass_of_methodNamed Bd.named
 have X0 : Stand p l e (Rm 2 0 0 33) s m #[(.ref kb)] below meth c s₁ [] 0 0 := Stand.of_body Bd
 have e0 : s₁.heap = h0 := by rw [← hh, Bd.state]; rfl
 have N0 := Fr.nil n0
 have K00 : Keep h0 h0 [] := Keep.refl _ _
 show Rch p e below s₁ (entryFrame m #[(.ref kb)] 1) (FinP s (Q_rm_lhc Z kb kkb b0 b1 h0 n0) 0 0)
 refine Rch.cast (ef_rm_lhc m kb kkb b0 b1) ?_
 show Rch p e below s₁ (mkF m 0 #[vR kb] []) _
 refine w_aloadN (pc' := 1) X0 hx hby d42_0 rfl rfl rfl ?_
 refine Rch.st (fun _ k => own_alen X0 hx hZ e0 f0 rfl rfl (hb hby d42_1) k) ?_
 show Rch p e below s₁ (mkF m 2 #[vR kb] [(.int 2)]) _
 refine Rch.st (fun _ k => own_lswM (g := (mkF m 2 #[vR kb] [(.int 2)])) X0 hx rfl (pc0 := 2) (pc' := 42) rfl rfl (hb hby d42_2) (by decide) (by decide) (by decide) (by decide) k) ?_
 show Rch p e below s₁ (mkF m 42 #[vR kb] []) _
 refine w_aloadN (pc' := 43) X0 hx hby d42_42 rfl rfl rfl ?_
 refine w_iconst (pc' := 44) (v := 0) X0 hx hby d42_43 rfl rfl ?_
 refine w_aloadN (pc' := 45) X0 hx hby d42_44 rfl rfl rfl ?_
 refine Rch.st (fun _ k => own_alen X0 hx hZ e0 f0 rfl rfl (hb hby d42_45) k) ?_
 show Rch p e below s₁ (mkF m 46 #[vR kb] [(.int 2), (.int 0), (.ref kb)]) _
 refine w_iconst (pc' := 47) (v := 0) X0 hx hby d42_46 rfl rfl ?_
 refine w_iconst (pc' := 48) (v := 4) X0 hx hby d42_47 rfl rfl ?_
 obtain ⟨_, _, ⟨T622, L622, k622, n622⟩, -, X622, ⟨Lc622, hQ622, l622, y622, z622⟩, st622⟩ := Jvm.LawKit.callS X0 hx (y := y_43) hown (mvT hZ (wi hw 168 rfl)) (mvT hZ (wi hw 169 rfl)) (mvT hZ (wi hw 170 rfl)) (mvT hZ (wi hw 171 rfl)) (by decide) (backOf (W := 0) (rm_vhc l Z a0 hw [] kb kkb b0 b1 h0 n0 Z0 f0 f1) hZ (wi hw 171 rfl) (wi hw 170 rfl) (by decide) (by decide)) (g := (mkF m 48 #[vR kb] [(.int 4), (.int 0), (.int 2), (.int 0), (.ref kb)])) rfl (by rw [hml]; rfl) (argsL := [(.ref kb), (.int 0), (.int 2), (.int 0), (.int 4)]) (rest := []) (lenOf pd__Ljava_lang_Object_IIII_I rfl) rfl (by show 2 * 0 + _ ≤ _; exact Nat.le_of_eq rfl) (hb hby d42_48) (fun _ _ => ⟨rfl, e0, (by decide : 0 + 0 ≤ _), (by decide : 0 + 0 ≤ _)⟩)
 dsimp only [Pt.U, Pt.locs, Pt.cells, Pt.slots] at X622 l622 y622 z622 st622 hQ622
 subst l622 y622 z622
 obtain ⟨r_622, rfl, NQ622, K622⟩ := hQ622
 have N623 := Fr.app N0 NQ622
 refine Rch.st (fun _ k => st622 _ k) ?_
 show Rch p e below T622 (mkF m 51 #[vR kb] [(.int r_622)]) _
 exact Rch.retV X622 hx Bd.returns rfl (Or.inl ⟨rfl, by simp, _, rfl⟩) (hb hby d42_51) (by rw [K622]; exact ⟨r_622, rfl, N623, rfl⟩) (by decide) (by decide)

abbrev c43 : ByteArray := jdk_42_method_78_code
theorem d43_0 : decode c43 0 = .ok (.aload_n 0, 1) := by decide +kernel
theorem d43_1 : decode c43 1 = .ok (.getfield 19, 3) := by decide +kernel
theorem d43_4 : decode c43 4 = .ok (.istore_n 1, 1) := by decide +kernel
theorem d43_5 : decode c43 5 = .ok (.iload_n 1, 1) := by decide +kernel
theorem d43_6 : decode c43 6 = .ok (.ifCond .ne 52, 3) := by decide +kernel
theorem d43_9 : decode c43 9 = .ok (.aload_n 0, 1) := by decide +kernel
theorem d43_10 : decode c43 10 = .ok (.getfield 23, 3) := by decide +kernel
theorem d43_13 : decode c43 13 = .ok (.ifCond .ne 45, 3) := by decide +kernel
theorem d43_16 : decode c43 16 = .ok (.aload_n 0, 1) := by decide +kernel
theorem d43_17 : decode c43 17 = .ok (.invokevirtual 492, 3) := by decide +kernel
theorem d43_20 : decode c43 20 = .ok (.ifCond .eq 13, 3) := by decide +kernel
theorem d43_23 : decode c43 23 = .ok (.aload_n 0, 1) := by decide +kernel
theorem d43_24 : decode c43 24 = .ok (.getfield 9, 3) := by decide +kernel
theorem d43_27 : decode c43 27 = .ok (.invokestatic 628, 3) := by decide +kernel
theorem d43_30 : decode c43 30 = .ok (.goto 10, 3) := by decide +kernel
theorem d43_40 : decode c43 40 = .ok (.istore_n 1, 1) := by decide +kernel
theorem d43_41 : decode c43 41 = .ok (.iload_n 1, 1) := by decide +kernel
theorem d43_42 : decode c43 42 = .ok (.ifCond .ne 11, 3) := by decide +kernel
theorem d43_45 : decode c43 45 = .ok (.aload_n 0, 1) := by decide +kernel
theorem d43_46 : decode c43 46 = .ok (.iconst 1, 1) := by decide +kernel
theorem d43_47 : decode c43 47 = .ok (.putfield 23, 3) := by decide +kernel
theorem d43_50 : decode c43 50 = .ok (.goto 8, 3) := by decide +kernel
theorem d43_53 : decode c43 53 = .ok (.aload_n 0, 1) := by decide +kernel
theorem d43_54 : decode c43 54 = .ok (.iload_n 1, 1) := by decide +kernel
theorem d43_55 : decode c43 55 = .ok (.putfield 19, 3) := by decide +kernel
theorem d43_58 : decode c43 58 = .ok (.iload_n 1, 1) := by decide +kernel
theorem d43_59 : decode c43 59 = .ok (.ireturn, 1) := by decide +kernel
theorem ef_rm_hc (m : MethodId) (G1 : Int32) (ky : Addr) (kb : Addr) (kkb : ClassId) (b0 : Int32) (b1 : Int32) (hv : Int32) (hz : Int32)  : entryFrame m #[(.ref ky)] 2 = mkF m 0 #[vR ky, U] [] := by  first | (simp [entryFrame, mkF, argsToLocals, Value.category, maxLocals]; done) | rfl
def Q_rm_hc (Z : State) (G1 : Int32) (ky : Addr) (kb : Addr) (kkb : ClassId) (b0 : Int32) (b1 : Int32) (hv : Int32) (hz : Int32) (h0 : Heap) (n0 : Nat) (v : Option Value) (h : Heap) (L : List Loc) : Prop := ∃ (r : Int32) (x2 : Int32) (y2 : Int32), (v = some (.int r)) ∧ (Fr n0 L) ∧ (Keep h0 h [ky]) ∧ (∀ a v, Fld Z h0 a "java/lang/String" "coder" "B" v → Fld Z h a "java/lang/String" "coder" "B" v) ∧ (∀ a v, Fld Z h0 a "java/lang/String" "value" "[B" v → Fld Z h a "java/lang/String" "value" "[B" v) ∧ (Fld Z h ky "java/lang/String" "coder" "B" (.int (0 : Int32))) ∧ (Fld Z h ky "java/lang/String" "value" "[B" (.ref kb)) ∧ (Fld Z h ky "java/lang/String" "hash" "I" (.int x2)) ∧ (Fld Z h ky "java/lang/String" "hashIsZero" "Z" (.int y2))
theorem pd___B_I : parseMethodDescriptor "([B)I" = some ⟨[(.array .byte)], (some .int)⟩ := by decide +kernel
set_option maxRecDepth 65536 in
set_option maxHeartbeats 40000000 in
theorem rm_hc (l : Launch) (Z : State) (a0 : Array Value) (hw : ∀ d ∈ tables_1, d.before a0 Z = true) (ws : List Jvm.Cond) (G1 : Int32) (ky : Addr) (kb : Addr) (kkb : ClassId) (b0 : Int32) (b1 : Int32) (hv : Int32) (hz : Int32) (h0 : Heap) (n0 : Nat) (Z0 : n0 ≤ h0.size) (O2 : Sta Z Z.heap "java/lang/String" "COMPACT_STRINGS" "Z" (.int G1)) (P5 : ¬ G1 = 0) (f2 : Exa Z h0 ky "java/lang/String") (f3 : Fld Z h0 ky "java/lang/String" "coder" "B" (.int (0 : Int32))) (f4 : Fld Z h0 ky "java/lang/String" "value" "[B" (.ref kb)) (f5 : Fld Z h0 ky "java/lang/String" "hash" "I" (.int hv)) (f6 : Fld Z h0 ky "java/lang/String" "hashIsZero" "Z" (.int hz)) (f7 : Arv Z h0 kb kkb .byte (2 : Int32) [(.int b0), (.int b1)] (.int (0 : Int32))) (f8 : Exa Z h0 kb "[B") (gk : n0 ≤ ky) (Old0 : OldL Z n0 h0) :
    MetN l Z y_45 c43 2 (some .int) ws (Rm 3 0 0 45) #[(.ref ky)] h0 (Q_rm_hc Z G1 ky kb kkb b0 b1 hv hz h0 n0) := by
 refine MetFree.of_bodySF (plainFor_of_name pn_java_lang_String) hisR ?_
 intro p e s m args below meth c s₁ Bd hml0 hP hK
 obtain ⟨rfl, hZ, hh⟩ := hP
 have hx := Bd.exec
 have hby := Bd.bytes
 have hml : c.maxLocals = 2 := hml0
 have hown : s.vm.findClass "java/lang/String" = some m.cls := findClass_of_methodNamed Bd.named
 have X0 : Stand p l e (Rm 3 0 0 45) s m #[(.ref ky)] below meth c s₁ [] 0 0 := Stand.of_body Bd
 have e0 : s₁.heap = h0 := by rw [← hh, Bd.state]; rfl
 have N0 := Fr.nil n0
 have K00 : Keep h0 h0 [ky] := Keep.refl _ _
 show Rch p e below s₁ (entryFrame m #[(.ref ky)] 2) (FinP s (Q_rm_hc Z G1 ky kb kkb b0 b1 hv hz h0 n0) 0 0)
 refine Rch.cast (ef_rm_hc m G1 ky kb kkb b0 b1 hv hz) ?_
 show Rch p e below s₁ (mkF m 0 #[vR ky, U] []) _
 refine w_aloadN (pc' := 1) X0 hx hby d43_0 rfl rfl rfl ?_
 obtain ⟨T624, X624, e624, st624⟩ := getF X0 hx hZ hown (host := "") (Or.inl (wi hw 155 rfl)) Via.refl e0 f5 (g := (mkF m 1 #[vR ky, U] [(.ref ky)])) rfl rfl (hb hby d43_1)
 refine Rch.st (fun _ k => st624 _ k) ?_
 show Rch p e below T624 (mkF m 4 #[vR ky, U] [(.int hv)]) _
 refine w_istoreN (pc' := 5) (l' := #[vR ky, vI hv]) X624 hx hby d43_4 rfl rfl ?_
 refine w_iloadN (pc' := 6) X624 hx hby d43_5 rfl rfl ?_
 by_cases c625 : hv = 0
 ·skip
  refine w_ifNo (pc' := 9) X624 hx hby d43_6 (XT.i0_ne_f (c625)) rfl ?_
  refine w_aloadN (pc' := 10) X624 hx hby d43_9 rfl rfl rfl ?_
  obtain ⟨T626, X626, e626, st626⟩ := getF X624 hx hZ hown (host := "") (Or.inl (wi hw 157 rfl)) Via.refl e624 f6 (g := (mkF m 10 #[vR ky, vI hv] [(.ref ky)])) rfl rfl (hb hby d43_10)
  refine Rch.st (fun _ k => st626 _ k) ?_
  show Rch p e below T626 (mkF m 13 #[vR ky, vI hv] [(.int hz)]) _
  by_cases c627 : hz = 0
  ·skip
   refine w_ifNo (pc' := 16) X626 hx hby d43_13 (XT.i0_ne_f (c627)) rfl ?_
   refine w_aloadN (pc' := 17) X626 hx hby d43_16 rfl rfl rfl ?_
   obtain ⟨cq628, kq628, q628a, q628b, q628c⟩ := isOf hZ e626 f2
   obtain ⟨_, _, ⟨T628, L628, k628, n628⟩, -, X628, ⟨Lc628, hQ628, l628, y628, z628⟩, st628⟩ := X626.virtualBack hx (y := y_5) (z := y_5) hown (mvT hZ (wi hw 159 rfl)) (mvT hZ (wi hw 160 rfl)) (notFace_of_selects (args := #[]) (mvT hZ (wi hw 162 rfl))) (mvT hZ (wi hw 162 rfl)) (mvT hZ (wi hw 161 rfl)) (by decide) (backOf (W := 0) (rm_isl l Z a0 hw [] G1 ky h0 n0 Z0 (O2) (P5) f3 Old0) hZ (wi hw 163 rfl) (wi hw 7 rfl) (by decide) (by decide)) q628a q628c (g := (mkF m 17 #[vR ky, vI hv] [(.ref ky)])) rfl (by rw [hml]; rfl) (Steps.refl _) (argsL := []) (rest := []) (lenOf pd___Z rfl) rfl (by show 2 * 0 + _ ≤ _; exact Nat.le_of_eq rfl) (hb hby d43_17) (fun _ _ => ⟨rfl, e626, (by decide : 0 + 0 ≤ _), (by decide : 0 + 0 ≤ _)⟩)
   dsimp only [Pt.U, Pt.locs, Pt.cells, Pt.slots] at X628 l628 y628 z628 st628 hQ628
   subst l628 y628 z628
   obtain ⟨rfl, NQ628, K628⟩ := hQ628
   have N629 := Fr.app N0 NQ628
   refine Rch.st (fun _ k => st628.trans k) ?_
   show Rch p e below T628 (mkF m 20 #[vR ky, vI hv] [(.int 1)]) _
   refine w_ifNo (pc' := 23) X628 hx hby d43_20 (XT.i0_eq_f (by decide)) rfl ?_
   refine w_aloadN (pc' := 24) X628 hx hby d43_23 rfl rfl rfl ?_
   obtain ⟨T630, X630, e630, st630⟩ := getF X628 hx hZ hown (host := "") (Or.inl (wi hw 32 rfl)) Via.refl K628 f4 (g := (mkF m 24 #[vR ky, vI hv] [(.ref ky)])) rfl rfl (hb hby d43_24)
   refine Rch.st (fun _ k => st630 _ k) ?_
   show Rch p e below T630 (mkF m 27 #[vR ky, vI hv] [(.ref kb)]) _
   obtain ⟨_, _, ⟨T631, L631, k631, n631⟩, -, X631, ⟨Lc631, hQ631, l631, y631, z631⟩, st631⟩ := Jvm.LawKit.callS X630 hx (y := y_44) hown (mvT hZ (wi hw 164 rfl)) (mvT hZ (wi hw 165 rfl)) (mvT hZ (wi hw 166 rfl)) (mvT hZ (wi hw 167 rfl)) (by decide) (backOf (W := 0) (rm_lhc l Z a0 hw [] kb kkb b0 b1 h0 n0 Z0 f7 f8) hZ (wi hw 167 rfl) (wi hw 166 rfl) (by decide) (by decide)) (g := (mkF m 27 #[vR ky, vI hv] [(.ref kb)])) rfl (by rw [hml]; rfl) (argsL := [(.ref kb)]) (rest := []) (lenOf pd___B_I rfl) rfl (by show 2 * 0 + _ ≤ _; exact Nat.le_of_eq rfl) (hb hby d43_27) (fun _ _ => ⟨rfl, e630, (by decide : 0 + 0 ≤ _), (by decide : 0 + 0 ≤ _)⟩)
   dsimp only [Pt.U, Pt.locs, Pt.cells, Pt.slots] at X631 l631 y631 z631 st631 hQ631
   subst l631 y631 z631
   obtain ⟨r_631, rfl, NQ631, K631⟩ := hQ631
   have N632 := Fr.app N629 NQ631
   refine Rch.st (fun _ k => st631 _ k) ?_
   show Rch p e below T631 (mkF m 30 #[vR ky, vI hv] [(.int r_631)]) _
   refine w_goto (pc' := 40) X631 hx hby d43_30 (by decide) ?_
   refine w_istoreN (pc' := 41) (l' := #[vR ky, vI r_631]) X631 hx hby d43_40 rfl rfl ?_
   refine w_iloadN (pc' := 42) X631 hx hby d43_41 rfl rfl ?_
   by_cases c633 : r_631 = 0
   ·skip
    refine w_ifNo (pc' := 45) X631 hx hby d43_42 (XT.i0_ne_f (c633)) rfl ?_
    refine w_aloadN (pc' := 46) X631 hx hby d43_45 rfl rfl rfl ?_
    refine w_iconst (pc' := 47) (v := 1) X631 hx hby d43_46 rfl rfl ?_
    obtain ⟨T634, h634, X634, e634, W634, st634⟩ := putF X631 hx hZ hown (host := "") (Or.inl (wi hw 157 rfl)) Via.refl K631 f6 f2 (Or.inl (wi hw 158 rfl)) (wi hw 6 rfl) (ty := .boolean) (by decide) rfl rfl (g := (mkF m 47 #[vR ky, vI r_631] [(.int 1), (.ref ky)])) rfl rfl (hb hby d43_47)
    have N635 := Fr.snoc X634 N632 gk
    have f637 := f3.other W634 (Or.inr (slot_ne (t := .byte) (t' := .boolean) (Or.inr (wi hw 31 rfl)) (Or.inl (wi hw 158 rfl)) (by decide) (by decide) (by decide)))
    have f638 := f4.other W634 (Or.inr (slot_ne (t := (.array .byte)) (t' := .boolean) (Or.inr (wi hw 33 rfl)) (Or.inl (wi hw 158 rfl)) (by decide) (by decide) (by decide)))
    have f639 := f5.other W634 (Or.inr (slot_ne (t := .int) (t' := .boolean) (Or.inl (wi hw 156 rfl)) (Or.inl (wi hw 158 rfl)) (by decide) (by decide) (by decide)))
    have f640 := f6.same W634
    have Kp646 : Keep h0 h634 [ky] := K00.wr W634 (Or.inl (List.mem_of_getElem? (i := 0) rfl))
    refine Rch.st (fun _ k => st634 _ k) ?_
    show Rch p e below T634 (mkF m 50 #[vR ky, vI r_631] []) _
    refine w_goto (pc' := 58) X634 hx hby d43_50 (by decide) ?_
    refine w_iloadN (pc' := 59) X634 hx hby d43_58 rfl rfl ?_
    exact Rch.retV X634 hx Bd.returns rfl (Or.inl ⟨rfl, by simp, _, rfl⟩) (hb hby d43_59) (by rw [e634]; exact ⟨r_631, hv, (1 : Int32), rfl, N635, Kp646, fun _ _ F => F.other W634 (Or.inr (slot_ne (t := .byte) (t' := .boolean) (Or.inr (wi hw 31 rfl)) (Or.inl (wi hw 158 rfl)) (by decide) (by decide) (by decide))), fun _ _ F => F.other W634 (Or.inr (slot_ne (t := (.array .byte)) (t' := .boolean) (Or.inr (wi hw 33 rfl)) (Or.inl (wi hw 158 rfl)) (by decide) (by decide) (by decide))), f637, f638, f639, f640⟩) (by decide) (by decide)
   ·skip
    refine w_ifYes (pc' := 53) X631 hx hby d43_42 (XT.i0_ne_t (c633)) (by decide) ?_
    refine w_aloadN (pc' := 54) X631 hx hby d43_53 rfl rfl rfl ?_
    refine w_iloadN (pc' := 55) X631 hx hby d43_54 rfl rfl ?_
    obtain ⟨T647, h647, X647, e647, W647, st647⟩ := putF X631 hx hZ hown (host := "") (Or.inl (wi hw 155 rfl)) Via.refl K631 f5 f2 (Or.inl (wi hw 156 rfl)) (wi hw 6 rfl) (ty := .int) (by decide) rfl rfl (g := (mkF m 55 #[vR ky, vI r_631] [(.int r_631), (.ref ky)])) rfl rfl (hb hby d43_55)
    have N648 := Fr.snoc X647 N632 gk
    have f650 := f3.other W647 (Or.inr (slot_ne (t := .byte) (t' := .int) (Or.inr (wi hw 31 rfl)) (Or.inl (wi hw 156 rfl)) (by decide) (by decide) (by decide)))
    have f651 := f4.other W647 (Or.inr (slot_ne (t := (.array .byte)) (t' := .int) (Or.inr (wi hw 33 rfl)) (Or.inl (wi hw 156 rfl)) (by decide) (by decide) (by decide)))
    have f652 := f5.same W647
    have f653 := f6.other W647 (Or.inr (slot_ne (t := .boolean) (t' := .int) (Or.inl (wi hw 158 rfl)) (Or.inl (wi hw 156 rfl)) (by decide) (by decide) (by decide)))
    have Kp659 : Keep h0 h647 [ky] := K00.wr W647 (Or.inl (List.mem_of_getElem? (i := 0) rfl))
    refine Rch.st (fun _ k => st647 _ k) ?_
    show Rch p e below T647 (mkF m 58 #[vR ky, vI r_631] []) _
    refine w_iloadN (pc' := 59) X647 hx hby d43_58 rfl rfl ?_
    exact Rch.retV X647 hx Bd.returns rfl (Or.inl ⟨rfl, by simp, _, rfl⟩) (hb hby d43_59) (by rw [e647]; exact ⟨r_631, r_631, hz, rfl, N648, Kp659, fun _ _ F => F.other W647 (Or.inr (slot_ne (t := .byte) (t' := .int) (Or.inr (wi hw 31 rfl)) (Or.inl (wi hw 156 rfl)) (by decide) (by decide) (by decide))), fun _ _ F => F.other W647 (Or.inr (slot_ne (t := (.array .byte)) (t' := .int) (Or.inr (wi hw 33 rfl)) (Or.inl (wi hw 156 rfl)) (by decide) (by decide) (by decide))), f650, f651, f652, f653⟩) (by decide) (by decide)
  ·skip
   refine w_ifYes (pc' := 58) X626 hx hby d43_13 (XT.i0_ne_t (c627)) (by decide) ?_
   refine w_iloadN (pc' := 59) X626 hx hby d43_58 rfl rfl ?_
   exact Rch.retV X626 hx Bd.returns rfl (Or.inl ⟨rfl, by simp, _, rfl⟩) (hb hby d43_59) (by rw [e626]; exact ⟨hv, hv, hz, rfl, N0, K00, fun _ _ F => F, fun _ _ F => F, f3, f4, f5, f6⟩) (by decide) (by decide)
 ·skip
  refine w_ifYes (pc' := 58) X624 hx hby d43_6 (XT.i0_ne_t (c625)) (by decide) ?_
  refine w_iloadN (pc' := 59) X624 hx hby d43_58 rfl rfl ?_
  exact Rch.retV X624 hx Bd.returns rfl (Or.inl ⟨rfl, by simp, _, rfl⟩) (hb hby d43_59) (by rw [e624]; exact ⟨hv, hv, hz, rfl, N0, K00, fun _ _ F => F, fun _ _ F => F, f3, f4, f5, f6⟩) (by decide) (by decide)

abbrev c44 : ByteArray := jdk_69_method_1_code
theorem d44_0 : decode c44 0 = .ok (.aload_n 0, 1) := by decide +kernel
theorem d44_1 : decode c44 1 = .ok (.ifnonnull 7, 3) := by decide +kernel
theorem d44_8 : decode c44 8 = .ok (.aload_n 0, 1) := by decide +kernel
theorem d44_9 : decode c44 9 = .ok (.invokevirtual 1, 3) := by decide +kernel
theorem d44_12 : decode c44 12 = .ok (.dup, 1) := by decide +kernel
theorem d44_13 : decode c44 13 = .ok (.istore_n 1, 1) := by decide +kernel
theorem d44_14 : decode c44 14 = .ok (.iload_n 1, 1) := by decide +kernel
theorem d44_15 : decode c44 15 = .ok (.bipush 16, 2) := by decide +kernel
theorem d44_17 : decode c44 17 = .ok (.iushr, 1) := by decide +kernel
theorem d44_18 : decode c44 18 = .ok (.ixor, 1) := by decide +kernel
theorem d44_19 : decode c44 19 = .ok (.ireturn, 1) := by decide +kernel
theorem ef_rm_hash (m : MethodId) (G1 : Int32) (ky : Addr) (kb : Addr) (kkb : ClassId) (b0 : Int32) (b1 : Int32) (hv : Int32) (hz : Int32)  : entryFrame m #[(.ref ky)] 2 = mkF m 0 #[vR ky, U] [] := by  first | (simp [entryFrame, mkF, argsToLocals, Value.category, maxLocals]; done) | rfl
def Q_rm_hash (Z : State) (G1 : Int32) (ky : Addr) (kb : Addr) (kkb : ClassId) (b0 : Int32) (b1 : Int32) (hv : Int32) (hz : Int32) (h0 : Heap) (n0 : Nat) (v : Option Value) (h : Heap) (L : List Loc) : Prop := ∃ (r : Int32) (x2 : Int32) (y2 : Int32), (v = some (.int r)) ∧ (Fr n0 L) ∧ (Keep h0 h [ky]) ∧ (∀ a v, Fld Z h0 a "java/lang/String" "coder" "B" v → Fld Z h a "java/lang/String" "coder" "B" v) ∧ (∀ a v, Fld Z h0 a "java/lang/String" "value" "[B" v → Fld Z h a "java/lang/String" "value" "[B" v) ∧ (Fld Z h ky "java/lang/String" "coder" "B" (.int (0 : Int32))) ∧ (Fld Z h ky "java/lang/String" "value" "[B" (.ref kb)) ∧ (Fld Z h ky "java/lang/String" "hash" "I" (.int x2)) ∧ (Fld Z h ky "java/lang/String" "hashIsZero" "Z" (.int y2))
set_option maxRecDepth 65536 in
set_option maxHeartbeats 40000000 in
theorem rm_hash (l : Launch) (Z : State) (a0 : Array Value) (hw : ∀ d ∈ tables_1, d.before a0 Z = true) (ws : List Jvm.Cond) (G1 : Int32) (ky : Addr) (kb : Addr) (kkb : ClassId) (b0 : Int32) (b1 : Int32) (hv : Int32) (hz : Int32) (h0 : Heap) (n0 : Nat) (Z0 : n0 ≤ h0.size) (O2 : Sta Z Z.heap "java/lang/String" "COMPACT_STRINGS" "Z" (.int G1)) (P5 : ¬ G1 = 0) (f2 : Exa Z h0 ky "java/lang/String") (f3 : Fld Z h0 ky "java/lang/String" "coder" "B" (.int (0 : Int32))) (f4 : Fld Z h0 ky "java/lang/String" "value" "[B" (.ref kb)) (f5 : Fld Z h0 ky "java/lang/String" "hash" "I" (.int hv)) (f6 : Fld Z h0 ky "java/lang/String" "hashIsZero" "Z" (.int hz)) (f7 : Arv Z h0 kb kkb .byte (2 : Int32) [(.int b0), (.int b1)] (.int (0 : Int32))) (f8 : Exa Z h0 kb "[B") (gk : n0 ≤ ky) (Old0 : OldL Z n0 h0) :
    MetN l Z y_46 c44 2 (some .int) ws (Rm 4 0 0 58) #[(.ref ky)] h0 (Q_rm_hash Z G1 ky kb kkb b0 b1 hv hz h0 n0) := by
 refine MetFree.of_bodySF (plainFor_of_name pn_java_util_HashMap) hisR ?_
 intro p e s m args below meth c s₁ Bd hml0 hP hK
 obtain ⟨rfl, hZ, hh⟩ := hP
 have hx := Bd.exec
 have hby := Bd.bytes
 have hml : c.maxLocals = 2 := hml0
 have hown : s.vm.findClass "java/util/HashMap" = some m.cls := findClass_of_methodNamed Bd.named
 have X0 : Stand p l e (Rm 4 0 0 58) s m #[(.ref ky)] below meth c s₁ [] 0 0 := Stand.of_body Bd
 have e0 : s₁.heap = h0 := by rw [← hh, Bd.state]; rfl
 have N0 := Fr.nil n0
 have K00 : Keep h0 h0 [ky] := Keep.refl _ _
 show Rch p e below s₁ (entryFrame m #[(.ref ky)] 2) (FinP s (Q_rm_hash Z G1 ky kb kkb b0 b1 hv hz h0 n0) 0 0)
 refine Rch.cast (ef_rm_hash m G1 ky kb kkb b0 b1 hv hz) ?_
 show Rch p e below s₁ (mkF m 0 #[vR ky, U] []) _
 refine w_aloadN (pc' := 1) X0 hx hby d44_0 rfl rfl rfl ?_
 refine w_nonnullYes (pc' := 8) X0 hx hby d44_1 rfl (fun q => nomatch q) (by decide) ?_
 refine w_aloadN (pc' := 9) X0 hx hby d44_8 rfl rfl rfl ?_
 obtain ⟨cq660, kq660, q660a, q660b, q660c⟩ := isOf hZ e0 f2
 obtain ⟨_, _, ⟨T660, L660, k660, n660⟩, -, X660, ⟨Lc660, hQ660, l660, y660, z660⟩, st660⟩ := X0.virtualBack hx (y := y_47) (z := y_45) hown (mvT hZ (wi hw 149 rfl)) (mvT hZ (wi hw 150 rfl)) (own_nfI (args := #[]) (mvT hZ (wi hw 136 rfl))) (mvT hZ (wi hw 152 rfl)) (mvT hZ (wi hw 153 rfl)) (by decide) (backOf (W := 0) (rm_hc l Z a0 hw [] G1 ky kb kkb b0 b1 hv hz h0 n0 Z0 (O2) (P5) f2 f3 f4 f5 f6 f7 f8 (gk) Old0) hZ (wi hw 154 rfl) (wi hw 7 rfl) (by decide) (by decide)) q660a q660c (g := (mkF m 9 #[vR ky, U] [(.ref ky)])) rfl (by rw [hml]; rfl) (Steps.refl _) (argsL := []) (rest := []) (lenOf pd___I rfl) rfl (by show 2 * 0 + _ ≤ _; exact Nat.le_of_eq rfl) (hb hby d44_9) (fun _ _ => ⟨rfl, e0, (by decide : 0 + 0 ≤ _), (by decide : 0 + 0 ≤ _)⟩)
 dsimp only [Pt.U, Pt.locs, Pt.cells, Pt.slots] at X660 l660 y660 z660 st660 hQ660
 subst l660 y660 z660
 obtain ⟨r_660, x2_660, y2_660, rfl, NQ660, K660, pq660_0, pq660_1, fq660_0, fq660_1, fq660_2, fq660_3⟩ := hQ660
 have N661 := Fr.app N0 NQ660
 have Kp667 : Keep h0 T660.heap [ky] := K00.trans K660 (allS (Or.inl (List.mem_of_getElem? (i := 0) rfl)) all0)
 refine Rch.st (fun _ k => st660.trans k) ?_
 show Rch p e below T660 (mkF m 12 #[vR ky, U] [(.int r_660)]) _
 refine w_dup (pc' := 13) X660 hx hby d44_12 rfl rfl ?_
 refine w_istoreN (pc' := 14) (l' := #[vR ky, vI r_660]) X660 hx hby d44_13 rfl rfl ?_
 refine w_iloadN (pc' := 15) X660 hx hby d44_14 rfl rfl ?_
 refine w_bipush (pc' := 17) (v := 16) X660 hx hby d44_15 rfl rfl ?_
 refine w_iushr (pc' := 18) X660 hx hby d44_17 rfl ?_
 refine w_ixor (pc' := 19) X660 hx hby d44_18 rfl ?_
 exact Rch.retV X660 hx Bd.returns rfl (Or.inl ⟨rfl, by simp, _, rfl⟩) (hb hby d44_19) (by rw [(rfl : T660.heap = T660.heap)]; exact ⟨(r_660 ^^^ (XT.ushr r_660 (16 : Int32))), x2_660, y2_660, rfl, N661, Kp667, pq660_0, pq660_1, fq660_0, fq660_1, fq660_2, fq660_3⟩) (by decide) (by decide)

abbrev c45 : ByteArray := jdk_69_method_17_code
theorem d45_0 : decode c45 0 = .ok (.aload_n 0, 1) := by decide +kernel
theorem d45_1 : decode c45 1 = .ok (.getfield 105, 3) := by decide +kernel
theorem d45_4 : decode c45 4 = .ok (.astore_n 1, 1) := by decide +kernel
theorem d45_5 : decode c45 5 = .ok (.aload_n 1, 1) := by decide +kernel
theorem d45_6 : decode c45 6 = .ok (.ifnonnull 7, 3) := by decide +kernel
theorem d45_9 : decode c45 9 = .ok (.iconst 0, 1) := by decide +kernel
theorem d45_10 : decode c45 10 = .ok (.goto 5, 3) := by decide +kernel
theorem d45_15 : decode c45 15 = .ok (.istore_n 2, 1) := by decide +kernel
theorem d45_16 : decode c45 16 = .ok (.aload_n 0, 1) := by decide +kernel
theorem d45_17 : decode c45 17 = .ok (.getfield 88, 3) := by decide +kernel
theorem d45_20 : decode c45 20 = .ok (.istore_n 3, 1) := by decide +kernel
theorem d45_21 : decode c45 21 = .ok (.iconst 0, 1) := by decide +kernel
theorem d45_22 : decode c45 22 = .ok (.istore 5, 2) := by decide +kernel
theorem d45_24 : decode c45 24 = .ok (.iload_n 2, 1) := by decide +kernel
theorem d45_25 : decode c45 25 = .ok (.ifCond .le 42, 3) := by decide +kernel
theorem d45_67 : decode c45 67 = .ok (.iload_n 3, 1) := by decide +kernel
theorem d45_68 : decode c45 68 = .ok (.ifCond .le 9, 3) := by decide +kernel
theorem d45_77 : decode c45 77 = .ok (.bipush 16, 2) := by decide +kernel
theorem d45_79 : decode c45 79 = .ok (.istore 4, 2) := by decide +kernel
theorem d45_81 : decode c45 81 = .ok (.bipush 12, 2) := by decide +kernel
theorem d45_83 : decode c45 83 = .ok (.istore 5, 2) := by decide +kernel
theorem d45_85 : decode c45 85 = .ok (.iload 5, 2) := by decide +kernel
theorem d45_87 : decode c45 87 = .ok (.ifCond .ne 38, 3) := by decide +kernel
theorem d45_125 : decode c45 125 = .ok (.aload_n 0, 1) := by decide +kernel
theorem d45_126 : decode c45 126 = .ok (.iload 5, 2) := by decide +kernel
theorem d45_128 : decode c45 128 = .ok (.putfield 88, 3) := by decide +kernel
theorem d45_131 : decode c45 131 = .ok (.iload 4, 2) := by decide +kernel
theorem d45_133 : decode c45 133 = .ok (.anewarray 163, 3) := by decide +kernel
theorem d45_136 : decode c45 136 = .ok (.astore 6, 2) := by decide +kernel
theorem d45_138 : decode c45 138 = .ok (.aload_n 0, 1) := by decide +kernel
theorem d45_139 : decode c45 139 = .ok (.aload 6, 2) := by decide +kernel
theorem d45_141 : decode c45 141 = .ok (.putfield 105, 3) := by decide +kernel
theorem d45_144 : decode c45 144 = .ok (.aload_n 1, 1) := by decide +kernel
theorem d45_145 : decode c45 145 = .ok (.ifnull 208, 3) := by decide +kernel
theorem d45_353 : decode c45 353 = .ok (.aload 6, 2) := by decide +kernel
theorem d45_355 : decode c45 355 = .ok (.areturn, 1) := by decide +kernel
theorem ef_rm_rs (m : MethodId) (mp : Addr)  : entryFrame m #[(.ref mp)] 14 = mkF m 0 #[vR mp, U, U, U, U, U, U, U, U, U, U, U, U, U] [] := by  first | (simp [entryFrame, mkF, argsToLocals, Value.category, maxLocals]; done) | rfl
def Q_rm_rs (Z : State) (mp : Addr) (h0 : Heap) (n0 : Nat) (v : Option Value) (h : Heap) (L : List Loc) : Prop := ∃ (t : Addr) (kt : ClassId), (v = some (.ref t)) ∧ (Fr n0 L) ∧ (Keep h0 h [mp]) ∧ (h0.size ≤ t) ∧ (Ovr Z kt "java/util/HashMap$Node") ∧ (Fld Z h mp "java/util/HashMap" "table" "[Ljava/util/HashMap$Node;" (.ref t)) ∧ (Fld Z h mp "java/util/HashMap" "size" "I" (.int (0 : Int32))) ∧ (Fld Z h mp "java/util/HashMap" "modCount" "I" (.int (0 : Int32))) ∧ (Fld Z h mp "java/util/HashMap" "threshold" "I" (.int (12 : Int32))) ∧ (Fld Z h mp "java/util/LinkedHashMap" "putMode" "I" (.int (0 : Int32))) ∧ (Fld Z h mp "java/util/LinkedHashMap" "head" "Ljava/util/LinkedHashMap$Entry;" .null) ∧ (Fld Z h mp "java/util/LinkedHashMap" "tail" "Ljava/util/LinkedHashMap$Entry;" .null) ∧ (Arv Z h t kt (.object "java/util/HashMap$Node") (16 : Int32) ([] : List Value) Value.null)
set_option maxRecDepth 65536 in
set_option maxHeartbeats 40000000 in
theorem rm_rs (l : Launch) (Z : State) (a0 : Array Value) (hw : ∀ d ∈ tables_1, d.before a0 Z = true) (ws : List Jvm.Cond) (mp : Addr) (h0 : Heap) (n0 : Nat) (Z0 : n0 ≤ h0.size) (f0 : Exa Z h0 mp "java/util/LinkedHashMap") (f1 : Fld Z h0 mp "java/util/HashMap" "table" "[Ljava/util/HashMap$Node;" .null) (f2 : Fld Z h0 mp "java/util/HashMap" "size" "I" (.int (0 : Int32))) (f3 : Fld Z h0 mp "java/util/HashMap" "modCount" "I" (.int (0 : Int32))) (f4 : Fld Z h0 mp "java/util/HashMap" "threshold" "I" (.int (0 : Int32))) (f5 : Fld Z h0 mp "java/util/LinkedHashMap" "putMode" "I" (.int (0 : Int32))) (f6 : Fld Z h0 mp "java/util/LinkedHashMap" "head" "Ljava/util/LinkedHashMap$Entry;" .null) (f7 : Fld Z h0 mp "java/util/LinkedHashMap" "tail" "Ljava/util/LinkedHashMap$Entry;" .null) (gm : n0 ≤ mp) :
    MetN l Z y_48 c45 14 (some (.array (.object "java/util/HashMap$Node"))) ws (Rm 0 1 16 0) #[(.ref mp)] h0 (Q_rm_rs Z mp h0 n0) := by
 refine MetFree.of_bodySF (plainFor_of_name pn_java_util_HashMap) hisR ?_
 intro p e s m args below meth c s₁ Bd hml0 hP hK
 obtain ⟨rfl, hZ, hh⟩ := hP
 have hx := Bd.exec
 have hby := Bd.bytes
 have hml : c.maxLocals = 14 := hml0
 have hown : s.vm.findClass "java/util/HashMap" = some m.cls := findClass_of_methodNamed Bd.named
 have X0 : Stand p l e (Rm 0 1 16 0) s m #[(.ref mp)] below meth c s₁ [] 0 0 := Stand.of_body Bd
 have e0 : s₁.heap = h0 := by rw [← hh, Bd.state]; rfl
 have N0 := Fr.nil n0
 have K00 : Keep h0 h0 [mp] := Keep.refl _ _
 show Rch p e below s₁ (entryFrame m #[(.ref mp)] 14) (FinP s (Q_rm_rs Z mp h0 n0) 1 16)
 refine Rch.cast (ef_rm_rs m mp) ?_
 show Rch p e below s₁ (mkF m 0 #[vR mp, U, U, U, U, U, U, U, U, U, U, U, U, U] []) _
 refine w_aloadN (pc' := 1) X0 hx hby d45_0 rfl rfl rfl ?_
 obtain ⟨T669, X669, e669, st669⟩ := getF X0 hx hZ hown (host := "") (Or.inl (wi hw 181 rfl)) Via.refl e0 f1 (g := (mkF m 1 #[vR mp, U, U, U, U, U, U, U, U, U, U, U, U, U] [(.ref mp)])) rfl rfl (hb hby d45_1)
 refine Rch.st (fun _ k => st669 _ k) ?_
 show Rch p e below T669 (mkF m 4 #[vR mp, U, U, U, U, U, U, U, U, U, U, U, U, U] [.null]) _
 refine w_astoreN (pc' := 5) (l' := #[vR mp, vN, U, U, U, U, U, U, U, U, U, U, U, U]) X669 hx hby d45_4 rfl rfl rfl ?_
 refine w_aloadN (pc' := 6) X669 hx hby d45_5 rfl rfl rfl ?_
 refine w_nonnullNo (pc' := 9) X669 hx hby d45_6 (rfl) rfl ?_
 refine w_iconst (pc' := 10) (v := 0) X669 hx hby d45_9 rfl rfl ?_
 refine w_goto (pc' := 15) X669 hx hby d45_10 (by decide) ?_
 refine w_istoreN (pc' := 16) (l' := #[vR mp, vN, vI 0, U, U, U, U, U, U, U, U, U, U, U]) X669 hx hby d45_15 rfl rfl ?_
 refine w_aloadN (pc' := 17) X669 hx hby d45_16 rfl rfl rfl ?_
 obtain ⟨T670, X670, e670, st670⟩ := getF X669 hx hZ hown (host := "") (Or.inl (wi hw 179 rfl)) Via.refl e669 f4 (g := (mkF m 17 #[vR mp, vN, vI 0, U, U, U, U, U, U, U, U, U, U, U] [(.ref mp)])) rfl rfl (hb hby d45_17)
 refine Rch.st (fun _ k => st670 _ k) ?_
 show Rch p e below T670 (mkF m 20 #[vR mp, vN, vI 0, U, U, U, U, U, U, U, U, U, U, U] [(.int 0)]) _
 refine w_istoreN (pc' := 21) (l' := #[vR mp, vN, vI 0, vI 0, U, U, U, U, U, U, U, U, U, U]) X670 hx hby d45_20 rfl rfl ?_
 refine w_iconst (pc' := 22) (v := 0) X670 hx hby d45_21 rfl rfl ?_
 refine w_istore (pc' := 24) (l' := #[vR mp, vN, vI 0, vI 0, U, vI 0, U, U, U, U, U, U, U, U]) X670 hx hby d45_22 rfl rfl ?_
 refine w_iloadN (pc' := 25) X670 hx hby d45_24 rfl rfl ?_
 refine w_ifYes (pc' := 67) X670 hx hby d45_25 (XT.i0_le_t (by decide)) (by decide) ?_
 refine w_iloadN (pc' := 68) X670 hx hby d45_67 rfl rfl ?_
 refine w_ifYes (pc' := 77) X670 hx hby d45_68 (XT.i0_le_t (by decide)) (by decide) ?_
 refine w_bipush (pc' := 79) (v := 16) X670 hx hby d45_77 rfl rfl ?_
 refine w_istore (pc' := 81) (l' := #[vR mp, vN, vI 0, vI 0, vI 16, vI 0, U, U, U, U, U, U, U, U]) X670 hx hby d45_79 rfl rfl ?_
 refine w_bipush (pc' := 83) (v := 12) X670 hx hby d45_81 rfl rfl ?_
 refine w_istore (pc' := 85) (l' := #[vR mp, vN, vI 0, vI 0, vI 16, vI 12, U, U, U, U, U, U, U, U]) X670 hx hby d45_83 rfl rfl ?_
 refine w_iload (pc' := 87) X670 hx hby d45_85 rfl rfl ?_
 refine w_ifYes (pc' := 125) X670 hx hby d45_87 (XT.i0_ne_t (by decide)) (by decide) ?_
 refine w_aloadN (pc' := 126) X670 hx hby d45_125 rfl rfl rfl ?_
 refine w_iload (pc' := 128) X670 hx hby d45_126 rfl rfl ?_
 obtain ⟨T671, h671, X671, e671, W671, st671⟩ := putF X670 hx hZ hown (host := "") (Or.inl (wi hw 179 rfl)) Via.refl e670 f4 f0 (Or.inl (wi hw 180 rfl)) (wi hw 45 rfl) (ty := .int) (by decide) rfl rfl (g := (mkF m 128 #[vR mp, vN, vI 0, vI 0, vI 16, vI 12, U, U, U, U, U, U, U, U] [(.int 12), (.ref mp)])) rfl rfl (hb hby d45_128)
 have N672 := Fr.snoc X671 N0 gm
 have f673 := f0.wr W671
 have f674 := f1.other W671 (Or.inr (slot_ne (t := (.array (.object "java/util/HashMap$Node"))) (t' := .int) (Or.inl (wi hw 182 rfl)) (Or.inl (wi hw 180 rfl)) (by decide) (by decide) (by decide)))
 have f675 := f2.other W671 (Or.inr (slot_ne (t := .int) (t' := .int) (Or.inl (wi hw 178 rfl)) (Or.inl (wi hw 180 rfl)) (by decide) (by decide) (by decide)))
 have f676 := f3.other W671 (Or.inr (slot_ne (t := .int) (t' := .int) (Or.inl (wi hw 191 rfl)) (Or.inl (wi hw 180 rfl)) (by decide) (by decide) (by decide)))
 have f677 := f4.same W671
 have f678 := f5.other W671 (Or.inr (slot_ne (t := .int) (t' := .int) (Or.inl (wi hw 67 rfl)) (Or.inl (wi hw 180 rfl)) (by decide) (by decide) (by decide)))
 have f679 := f6.other W671 (Or.inr (slot_ne (t := (.object "java/util/LinkedHashMap$Entry")) (t' := .int) (Or.inl (wi hw 245 rfl)) (Or.inl (wi hw 180 rfl)) (by decide) (by decide) (by decide)))
 have f680 := f7.other W671 (Or.inr (slot_ne (t := (.object "java/util/LinkedHashMap$Entry")) (t' := .int) (Or.inl (wi hw 243 rfl)) (Or.inl (wi hw 180 rfl)) (by decide) (by decide) (by decide)))
 have Kp682 : Keep h0 h671 [mp] := K00.wr W671 (Or.inl (List.mem_of_getElem? (i := 0) rfl))
 refine Rch.st (fun _ k => st671 _ k) ?_
 show Rch p e below T671 (mkF m 131 #[vR mp, vN, vI 0, vI 0, vI 16, vI 12, U, U, U, U, U, U, U, U] []) _
 refine w_iload (pc' := 133) X671 hx hby d45_131 rfl rfl ?_
 obtain ⟨T683, h683, kc683, X683, e683, E683, A683, O683, st683⟩ := newR X671 hx hZ hown (wi hw 188 rfl) (wi hw 189 rfl) e671 (g := (mkF m 133 #[vR mp, vN, vI 0, vI 0, vI 16, vI 12, U, U, U, U, U, U, U, U] [(.int 16)])) rfl (hb hby d45_133) rfl (by decide : ¬ ((16 : Int32) < (0 : Int32))) (cap := 16) (by decide : (16 : Int32).toNatClampNeg ≤ 16) (by decide) (by decide) (by decide)
 obtain ⟨a683, g683⟩ : ∃ z, z = h671.size := ⟨_, rfl⟩
 rw [← g683] at A683 st683
 have ne684 : mp ≠ a683 := by rw [g683]; exact Nat.ne_of_lt f673.lt
 have f687 := f673.ext E683
 have f688 := f674.ext E683
 have f689 := f675.ext E683
 have f690 := f676.ext E683
 have f691 := f677.ext E683
 have f692 := f678.ext E683
 have f693 := f679.ext E683
 have f694 := f680.ext E683
 have Kp696 : Keep h0 h683 [mp] := Kp682.ext E683
 have f697 : Arv Z h683 a683 kc683 (.object "java/util/HashMap$Node") (16 : Int32) ([] : List Value) Value.null := Arv.new A683 (by decide : ¬ ((16 : Int32) < (0 : Int32)))
 refine Rch.st (fun _ k => st683 _ k) ?_
 show Rch p e below T683 (mkF m 136 #[vR mp, vN, vI 0, vI 0, vI 16, vI 12, U, U, U, U, U, U, U, U] [(.ref a683)]) _
 refine w_astore (pc' := 138) (l' := #[vR mp, vN, vI 0, vI 0, vI 16, vI 12, vR a683, U, U, U, U, U, U, U]) X683 hx hby d45_136 rfl rfl rfl ?_
 refine w_aloadN (pc' := 139) X683 hx hby d45_138 rfl rfl rfl ?_
 refine w_aload (pc' := 141) X683 hx hby d45_139 rfl rfl rfl ?_
 obtain ⟨T698, h698, X698, e698, W698, st698⟩ := putF X683 hx hZ hown (host := "") (Or.inl (wi hw 181 rfl)) Via.refl e683 f688 f687 (Or.inl (wi hw 182 rfl)) (wi hw 45 rfl) (ty := (.array (.object "java/util/HashMap$Node"))) (by decide) rfl rfl (g := (mkF m 141 #[vR mp, vN, vI 0, vI 0, vI 16, vI 12, vR a683, U, U, U, U, U, U, U] [(.ref a683), (.ref mp)])) rfl rfl (hb hby d45_141)
 have N699 := Fr.snoc X698 N672 gm
 have f701 := f688.same W698
 have f702 := f689.other W698 (Or.inr (slot_ne (t := .int) (t' := (.array (.object "java/util/HashMap$Node"))) (Or.inl (wi hw 178 rfl)) (Or.inl (wi hw 182 rfl)) (by decide) (by decide) (by decide)))
 have f703 := f690.other W698 (Or.inr (slot_ne (t := .int) (t' := (.array (.object "java/util/HashMap$Node"))) (Or.inl (wi hw 191 rfl)) (Or.inl (wi hw 182 rfl)) (by decide) (by decide) (by decide)))
 have f704 := f691.other W698 (Or.inr (slot_ne (t := .int) (t' := (.array (.object "java/util/HashMap$Node"))) (Or.inl (wi hw 180 rfl)) (Or.inl (wi hw 182 rfl)) (by decide) (by decide) (by decide)))
 have f705 := f692.other W698 (Or.inr (slot_ne (t := .int) (t' := (.array (.object "java/util/HashMap$Node"))) (Or.inl (wi hw 67 rfl)) (Or.inl (wi hw 182 rfl)) (by decide) (by decide) (by decide)))
 have f706 := f693.other W698 (Or.inr (slot_ne (t := (.object "java/util/LinkedHashMap$Entry")) (t' := (.array (.object "java/util/HashMap$Node"))) (Or.inl (wi hw 245 rfl)) (Or.inl (wi hw 182 rfl)) (by decide) (by decide) (by decide)))
 have f707 := f694.other W698 (Or.inr (slot_ne (t := (.object "java/util/LinkedHashMap$Entry")) (t' := (.array (.object "java/util/HashMap$Node"))) (Or.inl (wi hw 243 rfl)) (Or.inl (wi hw 182 rfl)) (by decide) (by decide) (by decide)))
 have f708 := f697.other W698 (Ne.symm ne684)
 have Kp710 : Keep h0 h698 [mp] := Kp696.wr W698 (Or.inl (List.mem_of_getElem? (i := 0) rfl))
 refine Rch.st (fun _ k => st698 _ k) ?_
 show Rch p e below T698 (mkF m 144 #[vR mp, vN, vI 0, vI 0, vI 16, vI 12, vR a683, U, U, U, U, U, U, U] []) _
 refine w_aloadN (pc' := 145) X698 hx hby d45_144 rfl rfl rfl ?_
 refine w_nullYes (pc' := 353) X698 hx hby d45_145 (rfl) (by decide) ?_
 refine w_aload (pc' := 355) X698 hx hby d45_353 rfl rfl rfl ?_
 exact Rch.retV X698 hx Bd.returns rfl (Or.inr (Or.inr (Or.inr (Or.inr ⟨rfl, rfl, rfl⟩)))) (hb hby d45_355) (by rw [e698]; exact ⟨a683, kc683, rfl, N699, Kp710, (Nat.le_trans Kp682.1 (Nat.le_of_eq g683.symm)), O683, f701, f702, f703, f704, f705, f706, f707, f708⟩) (by decide) (by decide)

abbrev c46 : ByteArray := jdk_70_method_1_code
theorem d46_0 : decode c46 0 = .ok (.aload_n 0, 1) := by decide +kernel
theorem d46_1 : decode c46 1 = .ok (.invokespecial 1, 3) := by decide +kernel
theorem d46_4 : decode c46 4 = .ok (.aload_n 0, 1) := by decide +kernel
theorem d46_5 : decode c46 5 = .ok (.iload_n 1, 1) := by decide +kernel
theorem d46_6 : decode c46 6 = .ok (.putfield 7, 3) := by decide +kernel
theorem d46_9 : decode c46 9 = .ok (.aload_n 0, 1) := by decide +kernel
theorem d46_10 : decode c46 10 = .ok (.aload_n 2, 1) := by decide +kernel
theorem d46_11 : decode c46 11 = .ok (.putfield 13, 3) := by decide +kernel
theorem d46_14 : decode c46 14 = .ok (.aload_n 0, 1) := by decide +kernel
theorem d46_15 : decode c46 15 = .ok (.aload_n 3, 1) := by decide +kernel
theorem d46_16 : decode c46 16 = .ok (.putfield 17, 3) := by decide +kernel
theorem d46_19 : decode c46 19 = .ok (.aload_n 0, 1) := by decide +kernel
theorem d46_20 : decode c46 20 = .ok (.aload 4, 2) := by decide +kernel
theorem d46_22 : decode c46 22 = .ok (.putfield 20, 3) := by decide +kernel
theorem d46_25 : decode c46 25 = .ok (.return_, 1) := by decide +kernel
theorem pn_java_util_HashMap_Node : plainName "java/util/HashMap$Node" = true := by first | (simp [plainName, overriddenIn]; done) | decide +kernel
theorem ef_rm_nd (m : MethodId) (en : Addr) (hs : Int32) (ky : Addr) (nv : Addr)  : entryFrame m #[(.ref en), (.int hs), (.ref ky), (.ref nv), .null] 5 = mkF m 0 #[vR en, vI hs, vR ky, vR nv, vN] [] := by  first | (simp [entryFrame, mkF, argsToLocals, Value.category, maxLocals]; done) | rfl
def Q_rm_nd (Z : State) (en : Addr) (hs : Int32) (ky : Addr) (nv : Addr) (h0 : Heap) (n0 : Nat) (v : Option Value) (h : Heap) (L : List Loc) : Prop := (v = none) ∧ (Fr n0 L) ∧ (Keep h0 h [en])
set_option maxRecDepth 65536 in
set_option maxHeartbeats 40000000 in
theorem rm_nd (l : Launch) (Z : State) (a0 : Array Value) (hw : ∀ d ∈ tables_1, d.before a0 Z = true) (ws : List Jvm.Cond) (en : Addr) (hs : Int32) (ky : Addr) (nv : Addr) (h0 : Heap) (n0 : Nat) (Z0 : n0 ≤ h0.size) (f0 : Exa Z h0 en "java/util/LinkedHashMap$Entry") (f1 : Fld Z h0 en "java/util/HashMap$Node" "hash" "I" (.int (0 : Int32))) (f2 : Fld Z h0 en "java/util/HashMap$Node" "key" "Ljava/lang/Object;" .null) (f3 : Fld Z h0 en "java/util/HashMap$Node" "value" "Ljava/lang/Object;" .null) (f4 : Fld Z h0 en "java/util/HashMap$Node" "next" "Ljava/util/HashMap$Node;" .null) (ge : n0 ≤ en) :
    MetN l Z y_49 c46 5 none ws (Rm 1 0 0 12) #[(.ref en), (.int hs), (.ref ky), (.ref nv), .null] h0 (Q_rm_nd Z en hs ky nv h0 n0) := by
 refine MetFree.of_bodySF (plainFor_of_name pn_java_util_HashMap_Node) hisR ?_
 intro p e s m args below meth c s₁ Bd hml0 hP hK
 obtain ⟨rfl, hZ, hh⟩ := hP
 have hx := Bd.exec
 have hby := Bd.bytes
 have hml : c.maxLocals = 5 := hml0
 have hown : s.vm.findClass "java/util/HashMap$Node" = some m.cls := findClass_of_methodNamed Bd.named
 have hnm := (name_of_methodNamed Bd.named Bd.method).1
 have X0 : Stand p l e (Rm 1 0 0 12) s m #[(.ref en), (.int hs), (.ref ky), (.ref nv), .null] below meth c s₁ [] 0 0 := Stand.of_body Bd
 have e0 : s₁.heap = h0 := by rw [← hh, Bd.state]; rfl
 have N0 := Fr.nil n0
 have K00 : Keep h0 h0 [en] := Keep.refl _ _
 show Rch p e below s₁ (entryFrame m #[(.ref en), (.int hs), (.ref ky), (.ref nv), .null] 5) (FinP s (Q_rm_nd Z en hs ky nv h0 n0) 0 0)
 refine Rch.cast (ef_rm_nd m en hs ky nv) ?_
 show Rch p e below s₁ (mkF m 0 #[vR en, vI hs, vR ky, vR nv, vN] []) _
 refine w_aloadN (pc' := 1) X0 hx hby d46_0 rfl rfl rfl ?_
 obtain ⟨T711, X711, e711, st711⟩ := initO X0 hx hZ hown (wi hw 228 rfl) (wi hw 16 rfl) (wi hw 17 rfl) e0 (g := (mkF m 1 #[vR en, vI hs, vR ky, vR nv, vN] [(.ref en)])) rfl (by rw [hml]; rfl) rfl (hb hby d46_1) (by decide) (W := 0) (by show 2 * 0 + _ ≤ _; exact Nat.le_of_eq rfl) (by decide)
 refine Rch.st (fun _ k => st711 _ k) ?_
 show Rch p e below T711 (mkF m 4 #[vR en, vI hs, vR ky, vR nv, vN] []) _
 refine w_aloadN (pc' := 5) X711 hx hby d46_4 rfl rfl rfl ?_
 refine w_iloadN (pc' := 6) X711 hx hby d46_5 rfl rfl ?_
 obtain ⟨T712, h712, X712, e712, W712, st712⟩ := putF X711 hx hZ hown (host := "") (Or.inl (wi hw 229 rfl)) Via.refl e711 f1 f0 (Or.inr ⟨(wi hw 230 rfl), rfl, hnm⟩) (wi hw 216 rfl) (ty := .int) (by decide) rfl rfl (g := (mkF m 6 #[vR en, vI hs, vR ky, vR nv, vN] [(.int hs), (.ref en)])) rfl rfl (hb hby d46_6)
 have N713 := Fr.snoc X712 N0 ge
 have f714 := f0.wr W712
 have f716 := f2.other W712 (Or.inr (slot_ne (t := (.object "java/lang/Object")) (t' := .int) (Or.inr (wi hw 232 rfl)) (Or.inr (wi hw 230 rfl)) (by decide) (by decide) (by decide)))
 have f717 := f3.other W712 (Or.inr (slot_ne (t := (.object "java/lang/Object")) (t' := .int) (Or.inl (wi hw 234 rfl)) (Or.inr (wi hw 230 rfl)) (by decide) (by decide) (by decide)))
 have f718 := f4.other W712 (Or.inr (slot_ne (t := (.object "java/util/HashMap$Node")) (t' := .int) (Or.inl (wi hw 236 rfl)) (Or.inr (wi hw 230 rfl)) (by decide) (by decide) (by decide)))
 have Kp720 : Keep h0 h712 [en] := K00.wr W712 (Or.inl (List.mem_of_getElem? (i := 0) rfl))
 refine Rch.st (fun _ k => st712 _ k) ?_
 show Rch p e below T712 (mkF m 9 #[vR en, vI hs, vR ky, vR nv, vN] []) _
 refine w_aloadN (pc' := 10) X712 hx hby d46_9 rfl rfl rfl ?_
 refine w_aloadN (pc' := 11) X712 hx hby d46_10 rfl rfl rfl ?_
 obtain ⟨T721, h721, X721, e721, W721, st721⟩ := putF X712 hx hZ hown (host := "") (Or.inl (wi hw 231 rfl)) Via.refl e712 f716 f714 (Or.inr ⟨(wi hw 232 rfl), rfl, hnm⟩) (wi hw 216 rfl) (ty := (.object "java/lang/Object")) (by decide) rfl rfl (g := (mkF m 11 #[vR en, vI hs, vR ky, vR nv, vN] [(.ref ky), (.ref en)])) rfl rfl (hb hby d46_11)
 have N722 := Fr.snoc X721 N713 ge
 have f723 := f714.wr W721
 have f726 := f717.other W721 (Or.inr (slot_ne (t := (.object "java/lang/Object")) (t' := (.object "java/lang/Object")) (Or.inl (wi hw 234 rfl)) (Or.inr (wi hw 232 rfl)) (by decide) (by decide) (by decide)))
 have f727 := f718.other W721 (Or.inr (slot_ne (t := (.object "java/util/HashMap$Node")) (t' := (.object "java/lang/Object")) (Or.inl (wi hw 236 rfl)) (Or.inr (wi hw 232 rfl)) (by decide) (by decide) (by decide)))
 have Kp729 : Keep h0 h721 [en] := Kp720.wr W721 (Or.inl (List.mem_of_getElem? (i := 0) rfl))
 refine Rch.st (fun _ k => st721 _ k) ?_
 show Rch p e below T721 (mkF m 14 #[vR en, vI hs, vR ky, vR nv, vN] []) _
 refine w_aloadN (pc' := 15) X721 hx hby d46_14 rfl rfl rfl ?_
 refine w_aloadN (pc' := 16) X721 hx hby d46_15 rfl rfl rfl ?_
 obtain ⟨T730, h730, X730, e730, W730, st730⟩ := putF X721 hx hZ hown (host := "") (Or.inl (wi hw 233 rfl)) Via.refl e721 f726 f723 (Or.inl (wi hw 234 rfl)) (wi hw 216 rfl) (ty := (.object "java/lang/Object")) (by decide) rfl rfl (g := (mkF m 16 #[vR en, vI hs, vR ky, vR nv, vN] [(.ref nv), (.ref en)])) rfl rfl (hb hby d46_16)
 have N731 := Fr.snoc X730 N722 ge
 have f732 := f723.wr W730
 have f736 := f727.other W730 (Or.inr (slot_ne (t := (.object "java/util/HashMap$Node")) (t' := (.object "java/lang/Object")) (Or.inl (wi hw 236 rfl)) (Or.inl (wi hw 234 rfl)) (by decide) (by decide) (by decide)))
 have Kp738 : Keep h0 h730 [en] := Kp729.wr W730 (Or.inl (List.mem_of_getElem? (i := 0) rfl))
 refine Rch.st (fun _ k => st730 _ k) ?_
 show Rch p e below T730 (mkF m 19 #[vR en, vI hs, vR ky, vR nv, vN] []) _
 refine w_aloadN (pc' := 20) X730 hx hby d46_19 rfl rfl rfl ?_
 refine w_aload (pc' := 22) X730 hx hby d46_20 rfl rfl rfl ?_
 obtain ⟨T739, h739, X739, e739, W739, st739⟩ := putF X730 hx hZ hown (host := "") (Or.inl (wi hw 235 rfl)) Via.refl e730 f736 f732 (Or.inl (wi hw 236 rfl)) (wi hw 216 rfl) (ty := (.object "java/util/HashMap$Node")) (by decide) rfl rfl (g := (mkF m 22 #[vR en, vI hs, vR ky, vR nv, vN] [.null, (.ref en)])) rfl rfl (hb hby d46_22)
 have N740 := Fr.snoc X739 N731 ge
 have Kp747 : Keep h0 h739 [en] := Kp738.wr W739 (Or.inl (List.mem_of_getElem? (i := 0) rfl))
 refine Rch.st (fun _ k => st739 _ k) ?_
 show Rch p e below T739 (mkF m 25 #[vR en, vI hs, vR ky, vR nv, vN] []) _
 exact Rch.ret0 X739 hx Bd.returns (hb hby d46_25) (by rw [e739]; exact ⟨rfl, N740, Kp747⟩) (by decide) (by decide)

abbrev c47 : ByteArray := jdk_83_method_1_code
theorem d47_0 : decode c47 0 = .ok (.aload_n 0, 1) := by decide +kernel
theorem d47_1 : decode c47 1 = .ok (.iload_n 1, 1) := by decide +kernel
theorem d47_2 : decode c47 2 = .ok (.aload_n 2, 1) := by decide +kernel
theorem d47_3 : decode c47 3 = .ok (.aload_n 3, 1) := by decide +kernel
theorem d47_4 : decode c47 4 = .ok (.aload 4, 2) := by decide +kernel
theorem d47_6 : decode c47 6 = .ok (.invokespecial 1, 3) := by decide +kernel
theorem d47_9 : decode c47 9 = .ok (.return_, 1) := by decide +kernel
theorem pn_java_util_LinkedHashMap_Entry : plainName "java/util/LinkedHashMap$Entry" = true := by first | (simp [plainName, overriddenIn]; done) | decide +kernel
theorem ef_rm_en_ (m : MethodId) (en : Addr) (hs : Int32) (ky : Addr) (nv : Addr)  : entryFrame m #[(.ref en), (.int hs), (.ref ky), (.ref nv), .null] 5 = mkF m 0 #[vR en, vI hs, vR ky, vR nv, vN] [] := by  first | (simp [entryFrame, mkF, argsToLocals, Value.category, maxLocals]; done) | rfl
def Q_rm_en_ (Z : State) (en : Addr) (hs : Int32) (ky : Addr) (nv : Addr) (h0 : Heap) (n0 : Nat) (v : Option Value) (h : Heap) (L : List Loc) : Prop := (v = none) ∧ (Fr n0 L) ∧ (Keep h0 h [en])
theorem pd__ILjava_lang_Object_Ljava_lang_Object_Ljava_util_HashMap_Node__V : parseMethodDescriptor "(ILjava/lang/Object;Ljava/lang/Object;Ljava/util/HashMap$Node;)V" = some ⟨[.int, (.object "java/lang/Object"), (.object "java/lang/Object"), (.object "java/util/HashMap$Node")], none⟩ := by decide +kernel
set_option maxRecDepth 65536 in
set_option maxHeartbeats 40000000 in
theorem rm_en_ (l : Launch) (Z : State) (a0 : Array Value) (hw : ∀ d ∈ tables_1, d.before a0 Z = true) (ws : List Jvm.Cond) (en : Addr) (hs : Int32) (ky : Addr) (nv : Addr) (h0 : Heap) (n0 : Nat) (Z0 : n0 ≤ h0.size) (f0 : Exa Z h0 en "java/util/LinkedHashMap$Entry") (f1 : Fld Z h0 en "java/util/HashMap$Node" "hash" "I" (.int (0 : Int32))) (f2 : Fld Z h0 en "java/util/HashMap$Node" "key" "Ljava/lang/Object;" .null) (f3 : Fld Z h0 en "java/util/HashMap$Node" "value" "Ljava/lang/Object;" .null) (f4 : Fld Z h0 en "java/util/HashMap$Node" "next" "Ljava/util/HashMap$Node;" .null) (ge : n0 ≤ en) :
    MetN l Z y_50 c47 5 none ws (Rm 2 0 0 28) #[(.ref en), (.int hs), (.ref ky), (.ref nv), .null] h0 (Q_rm_en_ Z en hs ky nv h0 n0) := by
 refine MetFree.of_bodySF (plainFor_of_name pn_java_util_LinkedHashMap_Entry) hisR ?_
 intro p e s m args below meth c s₁ Bd hml0 hP hK
 obtain ⟨rfl, hZ, hh⟩ := hP
 have hx := Bd.exec
 have hby := Bd.bytes
 have hml : c.maxLocals = 5 := hml0
 have hown : s.vm.findClass "java/util/LinkedHashMap$Entry" = some m.cls := findClass_of_methodNamed Bd.named
 have X0 : Stand p l e (Rm 2 0 0 28) s m #[(.ref en), (.int hs), (.ref ky), (.ref nv), .null] below meth c s₁ [] 0 0 := Stand.of_body Bd
 have e0 : s₁.heap = h0 := by rw [← hh, Bd.state]; rfl
 have N0 := Fr.nil n0
 have K00 : Keep h0 h0 [en] := Keep.refl _ _
 show Rch p e below s₁ (entryFrame m #[(.ref en), (.int hs), (.ref ky), (.ref nv), .null] 5) (FinP s (Q_rm_en_ Z en hs ky nv h0 n0) 0 0)
 refine Rch.cast (ef_rm_en_ m en hs ky nv) ?_
 show Rch p e below s₁ (mkF m 0 #[vR en, vI hs, vR ky, vR nv, vN] []) _
 refine w_aloadN (pc' := 1) X0 hx hby d47_0 rfl rfl rfl ?_
 refine w_iloadN (pc' := 2) X0 hx hby d47_1 rfl rfl ?_
 refine w_aloadN (pc' := 3) X0 hx hby d47_2 rfl rfl rfl ?_
 refine w_aloadN (pc' := 4) X0 hx hby d47_3 rfl rfl rfl ?_
 refine w_aload (pc' := 6) X0 hx hby d47_4 rfl rfl rfl ?_
 obtain ⟨_, _, ⟨T748, L748, k748, n748⟩, -, X748, ⟨Lc748, hQ748, l748, y748, z748⟩, st748⟩ := X0.specialBack hx (y := y_49) rfl hown (mvT hZ (wi hw 222 rfl)) (mvT hZ (wi hw 223 rfl)) (mvT hZ (wi hw 227 rfl)) (by decide) (backOf (W := 0) (rm_nd l Z a0 hw [] en hs ky nv h0 n0 Z0 f0 f1 f2 f3 f4 (ge)) hZ (wi hw 227 rfl) (wi hw 226 rfl) (by decide) (by decide)) (g := (mkF m 6 #[vR en, vI hs, vR ky, vR nv, vN] [.null, (.ref nv), (.ref ky), (.int hs), (.ref en)])) rfl (by rw [hml]; rfl) (Steps.refl _) (a := en) (argsL := [(.int hs), (.ref ky), (.ref nv), .null]) (rest := []) (lenOf pd__ILjava_lang_Object_Ljava_lang_Object_Ljava_util_HashMap_Node__V rfl) rfl (by show 2 * 0 + _ ≤ _; exact Nat.le_of_eq rfl) (hb hby d47_6) (fun _ _ => ⟨rfl, e0, (by decide : 0 + 0 ≤ _), (by decide : 0 + 0 ≤ _)⟩)
 dsimp only [Pt.U, Pt.locs, Pt.cells, Pt.slots] at X748 l748 y748 z748 st748 hQ748
 subst l748 y748 z748
 obtain ⟨rfl, NQ748, K748⟩ := hQ748
 have N749 := Fr.app N0 NQ748
 have Kp751 : Keep h0 T748.heap [en] := K00.trans K748 (allS (Or.inl (List.mem_of_getElem? (i := 0) rfl)) all0)
 refine Rch.st (fun _ k => st748.trans k) ?_
 show Rch p e below T748 (mkF m 9 #[vR en, vI hs, vR ky, vR nv, vN] []) _
 exact Rch.ret0 X748 hx Bd.returns (hb hby d47_9) (by rw [(rfl : T748.heap = T748.heap)]; exact ⟨rfl, N749, Kp751⟩) (by decide) (by decide)

abbrev c48 : ByteArray := jdk_94_method_1_code
theorem d48_0 : decode c48 0 = .ok (.aload_n 0, 1) := by decide +kernel
theorem d48_1 : decode c48 1 = .ok (.getfield 1, 3) := by decide +kernel
theorem d48_4 : decode c48 4 = .ok (.iconst 1, 1) := by decide +kernel
theorem d48_5 : decode c48 5 = .ok (.if_icmp .ne 38, 3) := by decide +kernel
theorem d48_43 : decode c48 43 = .ok (.aload_n 0, 1) := by decide +kernel
theorem d48_44 : decode c48 44 = .ok (.getfield 11, 3) := by decide +kernel
theorem d48_47 : decode c48 47 = .ok (.astore_n 2, 1) := by decide +kernel
theorem d48_48 : decode c48 48 = .ok (.aload_n 0, 1) := by decide +kernel
theorem d48_49 : decode c48 49 = .ok (.aload_n 1, 1) := by decide +kernel
theorem d48_50 : decode c48 50 = .ok (.putfield 11, 3) := by decide +kernel
theorem d48_53 : decode c48 53 = .ok (.aload_n 2, 1) := by decide +kernel
theorem d48_54 : decode c48 54 = .ok (.ifnonnull 11, 3) := by decide +kernel
theorem d48_57 : decode c48 57 = .ok (.aload_n 0, 1) := by decide +kernel
theorem d48_58 : decode c48 58 = .ok (.aload_n 1, 1) := by decide +kernel
theorem d48_59 : decode c48 59 = .ok (.putfield 7, 3) := by decide +kernel
theorem d48_62 : decode c48 62 = .ok (.goto 13, 3) := by decide +kernel
theorem d48_75 : decode c48 75 = .ok (.return_, 1) := by decide +kernel
theorem ef_rm_lk (m : MethodId) (mp : Addr) (t : Addr) (en : Addr)  : entryFrame m #[(.ref mp), (.ref en)] 3 = mkF m 0 #[vR mp, vR en, U] [] := by  first | (simp [entryFrame, mkF, argsToLocals, Value.category, maxLocals]; done) | rfl
def Q_rm_lk (Z : State) (mp : Addr) (t : Addr) (en : Addr) (h0 : Heap) (n0 : Nat) (v : Option Value) (h : Heap) (L : List Loc) : Prop := (v = none) ∧ (Fr n0 L) ∧ (Keep h0 h [mp]) ∧ (Fld Z h mp "java/util/HashMap" "table" "[Ljava/util/HashMap$Node;" (.ref t)) ∧ (Fld Z h mp "java/util/HashMap" "size" "I" (.int (0 : Int32))) ∧ (Fld Z h mp "java/util/HashMap" "modCount" "I" (.int (0 : Int32))) ∧ (Fld Z h mp "java/util/HashMap" "threshold" "I" (.int (12 : Int32))) ∧ (Fld Z h mp "java/util/LinkedHashMap" "putMode" "I" (.int (0 : Int32))) ∧ (Fld Z h mp "java/util/LinkedHashMap" "head" "Ljava/util/LinkedHashMap$Entry;" (.ref en)) ∧ (Fld Z h mp "java/util/LinkedHashMap" "tail" "Ljava/util/LinkedHashMap$Entry;" (.ref en))
set_option maxRecDepth 65536 in
set_option maxHeartbeats 40000000 in
theorem rm_lk (l : Launch) (Z : State) (a0 : Array Value) (hw : ∀ d ∈ tables_1, d.before a0 Z = true) (ws : List Jvm.Cond) (mp : Addr) (t : Addr) (en : Addr) (h0 : Heap) (n0 : Nat) (Z0 : n0 ≤ h0.size) (f0 : Exa Z h0 mp "java/util/LinkedHashMap") (f1 : Fld Z h0 mp "java/util/HashMap" "table" "[Ljava/util/HashMap$Node;" (.ref t)) (f2 : Fld Z h0 mp "java/util/HashMap" "size" "I" (.int (0 : Int32))) (f3 : Fld Z h0 mp "java/util/HashMap" "modCount" "I" (.int (0 : Int32))) (f4 : Fld Z h0 mp "java/util/HashMap" "threshold" "I" (.int (12 : Int32))) (f5 : Fld Z h0 mp "java/util/LinkedHashMap" "putMode" "I" (.int (0 : Int32))) (f6 : Fld Z h0 mp "java/util/LinkedHashMap" "head" "Ljava/util/LinkedHashMap$Entry;" .null) (f7 : Fld Z h0 mp "java/util/LinkedHashMap" "tail" "Ljava/util/LinkedHashMap$Entry;" .null) (gm : n0 ≤ mp) :
    MetN l Z y_51 c48 3 none ws (Rm 0 0 0 0) #[(.ref mp), (.ref en)] h0 (Q_rm_lk Z mp t en h0 n0) := by
 refine MetFree.of_bodySF (plainFor_of_name pn_java_util_LinkedHashMap) hisR ?_
 intro p e s m args below meth c s₁ Bd hml0 hP hK
 obtain ⟨rfl, hZ, hh⟩ := hP
 have hx := Bd.exec
 have hby := Bd.bytes
 have hml : c.maxLocals = 3 := hml0
 have hown : s.vm.findClass "java/util/LinkedHashMap" = some m.cls := findClass_of_methodNamed Bd.named
 have X0 : Stand p l e (Rm 0 0 0 0) s m #[(.ref mp), (.ref en)] below meth c s₁ [] 0 0 := Stand.of_body Bd
 have e0 : s₁.heap = h0 := by rw [← hh, Bd.state]; rfl
 have N0 := Fr.nil n0
 have K00 : Keep h0 h0 [mp] := Keep.refl _ _
 show Rch p e below s₁ (entryFrame m #[(.ref mp), (.ref en)] 3) (FinP s (Q_rm_lk Z mp t en h0 n0) 0 0)
 refine Rch.cast (ef_rm_lk m mp t en) ?_
 show Rch p e below s₁ (mkF m 0 #[vR mp, vR en, U] []) _
 refine w_aloadN (pc' := 1) X0 hx hby d48_0 rfl rfl rfl ?_
 obtain ⟨T753, X753, e753, st753⟩ := getF X0 hx hZ hown (host := "") (Or.inl (wi hw 66 rfl)) Via.refl e0 f5 (g := (mkF m 1 #[vR mp, vR en, U] [(.ref mp)])) rfl rfl (hb hby d48_1)
 refine Rch.st (fun _ k => st753 _ k) ?_
 show Rch p e below T753 (mkF m 4 #[vR mp, vR en, U] [(.int 0)]) _
 refine w_iconst (pc' := 5) (v := 1) X753 hx hby d48_4 rfl rfl ?_
 refine w_icmpYes (pc' := 43) X753 hx hby d48_5 (XT.ii_ne_t (by decide)) (by decide) ?_
 refine w_aloadN (pc' := 44) X753 hx hby d48_43 rfl rfl rfl ?_
 obtain ⟨T754, X754, e754, st754⟩ := getF X753 hx hZ hown (host := "") (Or.inl (wi hw 242 rfl)) Via.refl e753 f7 (g := (mkF m 44 #[vR mp, vR en, U] [(.ref mp)])) rfl rfl (hb hby d48_44)
 refine Rch.st (fun _ k => st754 _ k) ?_
 show Rch p e below T754 (mkF m 47 #[vR mp, vR en, U] [.null]) _
 refine w_astoreN (pc' := 48) (l' := #[vR mp, vR en, vN]) X754 hx hby d48_47 rfl rfl rfl ?_
 refine w_aloadN (pc' := 49) X754 hx hby d48_48 rfl rfl rfl ?_
 refine w_aloadN (pc' := 50) X754 hx hby d48_49 rfl rfl rfl ?_
 obtain ⟨T755, h755, X755, e755, W755, st755⟩ := putF X754 hx hZ hown (host := "") (Or.inl (wi hw 242 rfl)) Via.refl e754 f7 f0 (Or.inl (wi hw 243 rfl)) (wi hw 45 rfl) (ty := (.object "java/util/LinkedHashMap$Entry")) (by decide) rfl rfl (g := (mkF m 50 #[vR mp, vR en, vN] [(.ref en), (.ref mp)])) rfl rfl (hb hby d48_50)
 have N756 := Fr.snoc X755 N0 gm
 have f757 := f0.wr W755
 have f758 := f1.other W755 (Or.inr (slot_ne (t := (.array (.object "java/util/HashMap$Node"))) (t' := (.object "java/util/LinkedHashMap$Entry")) (Or.inl (wi hw 182 rfl)) (Or.inl (wi hw 243 rfl)) (by decide) (by decide) (by decide)))
 have f759 := f2.other W755 (Or.inr (slot_ne (t := .int) (t' := (.object "java/util/LinkedHashMap$Entry")) (Or.inl (wi hw 178 rfl)) (Or.inl (wi hw 243 rfl)) (by decide) (by decide) (by decide)))
 have f760 := f3.other W755 (Or.inr (slot_ne (t := .int) (t' := (.object "java/util/LinkedHashMap$Entry")) (Or.inl (wi hw 191 rfl)) (Or.inl (wi hw 243 rfl)) (by decide) (by decide) (by decide)))
 have f761 := f4.other W755 (Or.inr (slot_ne (t := .int) (t' := (.object "java/util/LinkedHashMap$Entry")) (Or.inl (wi hw 180 rfl)) (Or.inl (wi hw 243 rfl)) (by decide) (by decide) (by decide)))
 have f762 := f5.other W755 (Or.inr (slot_ne (t := .int) (t' := (.object "java/util/LinkedHashMap$Entry")) (Or.inl (wi hw 67 rfl)) (Or.inl (wi hw 243 rfl)) (by decide) (by decide) (by decide)))
 have f763 := f6.other W755 (Or.inr (slot_ne (t := (.object "java/util/LinkedHashMap$Entry")) (t' := (.object "java/util/LinkedHashMap$Entry")) (Or.inl (wi hw 245 rfl)) (Or.inl (wi hw 243 rfl)) (by decide) (by decide) (by decide)))
 have f764 := f7.same W755
 have Kp766 : Keep h0 h755 [mp] := K00.wr W755 (Or.inl (List.mem_of_getElem? (i := 0) rfl))
 refine Rch.st (fun _ k => st755 _ k) ?_
 show Rch p e below T755 (mkF m 53 #[vR mp, vR en, vN] []) _
 refine w_aloadN (pc' := 54) X755 hx hby d48_53 rfl rfl rfl ?_
 refine w_nonnullNo (pc' := 57) X755 hx hby d48_54 (rfl) rfl ?_
 refine w_aloadN (pc' := 58) X755 hx hby d48_57 rfl rfl rfl ?_
 refine w_aloadN (pc' := 59) X755 hx hby d48_58 rfl rfl rfl ?_
 obtain ⟨T767, h767, X767, e767, W767, st767⟩ := putF X755 hx hZ hown (host := "") (Or.inl (wi hw 244 rfl)) Via.refl e755 f763 f757 (Or.inl (wi hw 245 rfl)) (wi hw 45 rfl) (ty := (.object "java/util/LinkedHashMap$Entry")) (by decide) rfl rfl (g := (mkF m 59 #[vR mp, vR en, vN] [(.ref en), (.ref mp)])) rfl rfl (hb hby d48_59)
 have N768 := Fr.snoc X767 N756 gm
 have f770 := f758.other W767 (Or.inr (slot_ne (t := (.array (.object "java/util/HashMap$Node"))) (t' := (.object "java/util/LinkedHashMap$Entry")) (Or.inl (wi hw 182 rfl)) (Or.inl (wi hw 245 rfl)) (by decide) (by decide) (by decide)))
 have f771 := f759.other W767 (Or.inr (slot_ne (t := .int) (t' := (.object "java/util/LinkedHashMap$Entry")) (Or.inl (wi hw 178 rfl)) (Or.inl (wi hw 245 rfl)) (by decide) (by decide) (by decide)))
 have f772 := f760.other W767 (Or.inr (slot_ne (t := .int) (t' := (.object "java/util/LinkedHashMap$Entry")) (Or.inl (wi hw 191 rfl)) (Or.inl (wi hw 245 rfl)) (by decide) (by decide) (by decide)))
 have f773 := f761.other W767 (Or.inr (slot_ne (t := .int) (t' := (.object "java/util/LinkedHashMap$Entry")) (Or.inl (wi hw 180 rfl)) (Or.inl (wi hw 245 rfl)) (by decide) (by decide) (by decide)))
 have f774 := f762.other W767 (Or.inr (slot_ne (t := .int) (t' := (.object "java/util/LinkedHashMap$Entry")) (Or.inl (wi hw 67 rfl)) (Or.inl (wi hw 245 rfl)) (by decide) (by decide) (by decide)))
 have f775 := f763.same W767
 have f776 := f764.other W767 (Or.inr (slot_ne (t := (.object "java/util/LinkedHashMap$Entry")) (t' := (.object "java/util/LinkedHashMap$Entry")) (Or.inl (wi hw 243 rfl)) (Or.inl (wi hw 245 rfl)) (by decide) (by decide) (by decide)))
 have Kp778 : Keep h0 h767 [mp] := Kp766.wr W767 (Or.inl (List.mem_of_getElem? (i := 0) rfl))
 refine Rch.st (fun _ k => st767 _ k) ?_
 show Rch p e below T767 (mkF m 62 #[vR mp, vR en, vN] []) _
 refine w_goto (pc' := 75) X767 hx hby d48_62 (by decide) ?_
 exact Rch.ret0 X767 hx Bd.returns (hb hby d48_75) (by rw [e767]; exact ⟨rfl, N768, Kp778, f770, f771, f772, f773, f774, f775, f776⟩) (by decide) (by decide)

abbrev c49 : ByteArray := jdk_94_method_4_code
theorem d49_0 : decode c49 0 = .ok (.new 15, 3) := by decide +kernel
theorem d49_3 : decode c49 3 = .ok (.dup, 1) := by decide +kernel
theorem d49_4 : decode c49 4 = .ok (.iload_n 1, 1) := by decide +kernel
theorem d49_5 : decode c49 5 = .ok (.aload_n 2, 1) := by decide +kernel
theorem d49_6 : decode c49 6 = .ok (.aload_n 3, 1) := by decide +kernel
theorem d49_7 : decode c49 7 = .ok (.aload 4, 2) := by decide +kernel
theorem d49_9 : decode c49 9 = .ok (.invokespecial 28, 3) := by decide +kernel
theorem d49_12 : decode c49 12 = .ok (.astore 5, 2) := by decide +kernel
theorem d49_14 : decode c49 14 = .ok (.aload_n 0, 1) := by decide +kernel
theorem d49_15 : decode c49 15 = .ok (.aload 5, 2) := by decide +kernel
theorem d49_17 : decode c49 17 = .ok (.invokevirtual 32, 3) := by decide +kernel
theorem d49_20 : decode c49 20 = .ok (.aload 5, 2) := by decide +kernel
theorem d49_22 : decode c49 22 = .ok (.areturn, 1) := by decide +kernel
theorem ef_rm_nn (m : MethodId) (mp : Addr) (t : Addr) (hs : Int32) (ky : Addr) (nv : Addr)  : entryFrame m #[(.ref mp), (.int hs), (.ref ky), (.ref nv), .null] 6 = mkF m 0 #[vR mp, vI hs, vR ky, vR nv, vN, U] [] := by  first | (simp [entryFrame, mkF, argsToLocals, Value.category, maxLocals]; done) | rfl
def Q_rm_nn (Z : State) (mp : Addr) (t : Addr) (hs : Int32) (ky : Addr) (nv : Addr) (h0 : Heap) (n0 : Nat) (v : Option Value) (h : Heap) (L : List Loc) : Prop := ∃ (en : Addr), (v = some (.ref en)) ∧ (Fr n0 L) ∧ (Keep h0 h [mp]) ∧ (h0.size ≤ en) ∧ (Exa Z h en "java/util/LinkedHashMap$Entry") ∧ (Fld Z h mp "java/util/HashMap" "table" "[Ljava/util/HashMap$Node;" (.ref t)) ∧ (Fld Z h mp "java/util/HashMap" "size" "I" (.int (0 : Int32))) ∧ (Fld Z h mp "java/util/HashMap" "modCount" "I" (.int (0 : Int32))) ∧ (Fld Z h mp "java/util/HashMap" "threshold" "I" (.int (12 : Int32))) ∧ (Fld Z h mp "java/util/LinkedHashMap" "putMode" "I" (.int (0 : Int32))) ∧ (Fld Z h mp "java/util/LinkedHashMap" "head" "Ljava/util/LinkedHashMap$Entry;" (.ref en)) ∧ (Fld Z h mp "java/util/LinkedHashMap" "tail" "Ljava/util/LinkedHashMap$Entry;" (.ref en))
theorem pd__Ljava_util_LinkedHashMap_Entry__V : parseMethodDescriptor "(Ljava/util/LinkedHashMap$Entry;)V" = some ⟨[(.object "java/util/LinkedHashMap$Entry")], none⟩ := by decide +kernel
set_option maxRecDepth 65536 in
set_option maxHeartbeats 40000000 in
theorem rm_nn (l : Launch) (Z : State) (a0 : Array Value) (hw : ∀ d ∈ tables_1, d.before a0 Z = true) (ws : List Jvm.Cond) (mp : Addr) (t : Addr) (hs : Int32) (ky : Addr) (nv : Addr) (h0 : Heap) (n0 : Nat) (Z0 : n0 ≤ h0.size) (f0 : Exa Z h0 mp "java/util/LinkedHashMap") (f1 : Fld Z h0 mp "java/util/HashMap" "table" "[Ljava/util/HashMap$Node;" (.ref t)) (f2 : Fld Z h0 mp "java/util/HashMap" "size" "I" (.int (0 : Int32))) (f3 : Fld Z h0 mp "java/util/HashMap" "modCount" "I" (.int (0 : Int32))) (f4 : Fld Z h0 mp "java/util/HashMap" "threshold" "I" (.int (12 : Int32))) (f5 : Fld Z h0 mp "java/util/LinkedHashMap" "putMode" "I" (.int (0 : Int32))) (f6 : Fld Z h0 mp "java/util/LinkedHashMap" "head" "Ljava/util/LinkedHashMap$Entry;" .null) (f7 : Fld Z h0 mp "java/util/LinkedHashMap" "tail" "Ljava/util/LinkedHashMap$Entry;" .null) (gm : n0 ≤ mp) :
    MetN l Z y_52 c49 6 (some (.object "java/util/HashMap$Node")) ws (Rm 3 1 6 45) #[(.ref mp), (.int hs), (.ref ky), (.ref nv), .null] h0 (Q_rm_nn Z mp t hs ky nv h0 n0) := by
 refine MetFree.of_bodySF (plainFor_of_name pn_java_util_LinkedHashMap) hisR ?_
 intro p e s m args below meth c s₁ Bd hml0 hP hK
 obtain ⟨rfl, hZ, hh⟩ := hP
 have hx := Bd.exec
 have hby := Bd.bytes
 have hml : c.maxLocals = 6 := hml0
 have hown : s.vm.findClass "java/util/LinkedHashMap" = some m.cls := findClass_of_methodNamed Bd.named
 have X0 : Stand p l e (Rm 3 1 6 45) s m #[(.ref mp), (.int hs), (.ref ky), (.ref nv), .null] below meth c s₁ [] 0 0 := Stand.of_body Bd
 have e0 : s₁.heap = h0 := by rw [← hh, Bd.state]; rfl
 have N0 := Fr.nil n0
 have K00 : Keep h0 h0 [mp] := Keep.refl _ _
 show Rch p e below s₁ (entryFrame m #[(.ref mp), (.int hs), (.ref ky), (.ref nv), .null] 6) (FinP s (Q_rm_nn Z mp t hs ky nv h0 n0) 1 6)
 refine Rch.cast (ef_rm_nn m mp t hs ky nv) ?_
 show Rch p e below s₁ (mkF m 0 #[vR mp, vI hs, vR ky, vR nv, vN, U] []) _
 obtain ⟨T779, h779, X779, e779, E779, A779, D779, -, st779⟩ := newO X0 hx hZ hown (wi hw 215 rfl) (wi hw 216 rfl) (wi hw 217 rfl) e0 (g := (mkF m 0 #[vR mp, vI hs, vR ky, vR nv, vN, U] [])) rfl (hb hby d49_0) (by decide) (by decide)
 obtain ⟨a779, g779⟩ : ∃ z, z = h0.size := ⟨_, rfl⟩
 rw [← g779] at A779 D779 st779
 have ne780 : mp ≠ a779 := by rw [g779]; exact Nat.ne_of_lt f0.lt
 have ge781 : n0 ≤ a779 := Nat.le_trans Z0 (Nat.le_of_eq g779.symm)
 have f783 := f0.ext E779
 have f784 := f1.ext E779
 have f785 := f2.ext E779
 have f786 := f3.ext E779
 have f787 := f4.ext E779
 have f788 := f5.ext E779
 have f789 := f6.ext E779
 have f790 := f7.ext E779
 have Z791 := Nat.le_trans Z0 E779.1
 have Kp792 : Keep h0 h779 [mp] := K00.ext E779
 have f793 : Fld Z h779 a779 "java/util/HashMap$Node" "hash" "I" (.int (0 : Int32)) := D779 (Or.inr (wi hw 230 rfl)) (ty := .int) (by decide)
 have f794 : Fld Z h779 a779 "java/util/HashMap$Node" "key" "Ljava/lang/Object;" .null := D779 (Or.inr (wi hw 232 rfl)) (ty := (.object "java/lang/Object")) (by decide)
 have f795 : Fld Z h779 a779 "java/util/HashMap$Node" "value" "Ljava/lang/Object;" .null := D779 (Or.inl (wi hw 234 rfl)) (ty := (.object "java/lang/Object")) (by decide)
 have f796 : Fld Z h779 a779 "java/util/HashMap$Node" "next" "Ljava/util/HashMap$Node;" .null := D779 (Or.inl (wi hw 236 rfl)) (ty := (.object "java/util/HashMap$Node")) (by decide)
 refine Rch.st (fun _ k => st779 _ k) ?_
 show Rch p e below T779 (mkF m 3 #[vR mp, vI hs, vR ky, vR nv, vN, U] [(.ref a779)]) _
 refine w_dup (pc' := 4) X779 hx hby d49_3 rfl rfl ?_
 refine w_iloadN (pc' := 5) X779 hx hby d49_4 rfl rfl ?_
 refine w_aloadN (pc' := 6) X779 hx hby d49_5 rfl rfl rfl ?_
 refine w_aloadN (pc' := 7) X779 hx hby d49_6 rfl rfl rfl ?_
 refine w_aload (pc' := 9) X779 hx hby d49_7 rfl rfl rfl ?_
 obtain ⟨_, _, ⟨T797, L797, k797, n797⟩, -, X797, ⟨Lc797, hQ797, l797, y797, z797⟩, st797⟩ := X779.specialBack hx (y := y_50) rfl hown (mvT hZ (wi hw 218 rfl)) (mvT hZ (wi hw 219 rfl)) (mvT hZ (wi hw 221 rfl)) (by decide) (backOf (W := 1) (rm_en_ l Z a0 hw [] a779 hs ky nv h779 n0 Z791 A779 f793 f794 f795 f796 (ge781)) hZ (wi hw 221 rfl) (wi hw 217 rfl) (by decide) (by decide)) (g := (mkF m 9 #[vR mp, vI hs, vR ky, vR nv, vN, U] [.null, (.ref nv), (.ref ky), (.int hs), (.ref a779), (.ref a779)])) rfl (by rw [hml]; rfl) (Steps.refl _) (a := a779) (argsL := [(.int hs), (.ref ky), (.ref nv), .null]) (rest := [(.ref a779)]) (lenOf pd__ILjava_lang_Object_Ljava_lang_Object_Ljava_util_HashMap_Node__V rfl) rfl (by show 2 * 0 + _ ≤ _; exact Nat.le_of_eq rfl) (hb hby d49_9) (fun _ _ => ⟨rfl, e779, (by decide : 1 + 0 ≤ _), (by decide : 6 + 0 ≤ _)⟩)
 dsimp only [Pt.U, Pt.locs, Pt.cells, Pt.slots] at X797 l797 y797 z797 st797 hQ797
 subst l797 y797 z797
 obtain ⟨rfl, NQ797, K797⟩ := hQ797
 have N798 := Fr.app N0 NQ797
 have f799 := f783.keep K797
 have f800 := f784.keep K797 (ninS ne780 nin0)
 have f801 := f785.keep K797 (ninS ne780 nin0)
 have f802 := f786.keep K797 (ninS ne780 nin0)
 have f803 := f787.keep K797 (ninS ne780 nin0)
 have f804 := f788.keep K797 (ninS ne780 nin0)
 have f805 := f789.keep K797 (ninS ne780 nin0)
 have f806 := f790.keep K797 (ninS ne780 nin0)
 have f807 := A779.keep K797
 have Kp808 : Keep h0 T797.heap [mp] := Kp792.trans K797 (allS (Or.inr (Nat.le_trans K00.1 (Nat.le_of_eq g779.symm))) all0)
 have Z809 := Nat.le_trans Z791 K797.1
 refine Rch.st (fun _ k => st797.trans k) ?_
 show Rch p e below T797 (mkF m 12 #[vR mp, vI hs, vR ky, vR nv, vN, U] [(.ref a779)]) _
 refine w_astore (pc' := 14) (l' := #[vR mp, vI hs, vR ky, vR nv, vN, vR a779]) X797 hx hby d49_12 rfl rfl rfl ?_
 refine w_aloadN (pc' := 15) X797 hx hby d49_14 rfl rfl rfl ?_
 refine w_aload (pc' := 17) X797 hx hby d49_15 rfl rfl rfl ?_
 obtain ⟨cq810, q810a, q810b⟩ := f799.cell
 obtain ⟨_, _, ⟨T810, L810, k810, n810⟩, -, X810, ⟨Lc810, hQ810, l810, y810, z810⟩, st810⟩ := X797.privateBack hx (y := y_51) hown (mvT hZ (wi hw 237 rfl)) (mvT hZ (wi hw 238 rfl)) (own_selP (mvT hZ (wi hw 45 rfl)) (Cond.privateMethod_at (mvP hZ (wi hw 239 rfl) (args := #[]))) (mvT hZ (wi hw 238 rfl)) (by decide)) (Cond.privateMethod_at (mvP hZ (wi hw 239 rfl) (args := #[]))) (mvT hZ (wi hw 241 rfl)) (by decide) (backOf (W := 0) (rm_lk l Z a0 hw [] mp t a779 T797.heap n0 Z809 f799 f800 f801 f802 f803 f804 f805 f806 (gm)) hZ (wi hw 241 rfl) (wi hw 46 rfl) (by decide) (by decide)) (g := (mkF m 17 #[vR mp, vI hs, vR ky, vR nv, vN, vR a779] [(.ref a779), (.ref mp)])) rfl (by rw [hml]; rfl) (Steps.refl _) (a := mp) (by rw [(rfl : T797.heap = T797.heap)]; exact q810a) q810b (argsL := [(.ref a779)]) (rest := []) (lenOf pd__Ljava_util_LinkedHashMap_Entry__V rfl) rfl (by show 2 * 0 + _ ≤ _; exact Nat.le_of_eq rfl) (hb hby d49_17) (fun _ _ => ⟨rfl, (rfl : T797.heap = T797.heap), (by decide : 1 + 0 ≤ _), (by decide : 6 + 0 ≤ _)⟩)
 dsimp only [Pt.U, Pt.locs, Pt.cells, Pt.slots] at X810 l810 y810 z810 st810 hQ810
 subst l810 y810 z810
 obtain ⟨rfl, NQ810, K810, fq810_0, fq810_1, fq810_2, fq810_3, fq810_4, fq810_5, fq810_6⟩ := hQ810
 have N811 := Fr.app N798 NQ810
 have f813 := f807.keep K810
 have Kp814 : Keep h0 T810.heap [mp] := Kp808.trans K810 (allS (Or.inl (List.mem_of_getElem? (i := 0) rfl)) all0)
 refine Rch.st (fun _ k => st810.trans k) ?_
 show Rch p e below T810 (mkF m 20 #[vR mp, vI hs, vR ky, vR nv, vN, vR a779] []) _
 refine w_aload (pc' := 22) X810 hx hby d49_20 rfl rfl rfl ?_
 exact Rch.retV X810 hx Bd.returns rfl (Or.inr (Or.inr (Or.inr (Or.inr ⟨rfl, rfl, rfl⟩)))) (hb hby d49_22) (by rw [(rfl : T810.heap = T810.heap)]; exact ⟨a779, rfl, N811, Kp814, (Nat.le_trans K00.1 (Nat.le_of_eq g779.symm)), f813, fq810_0, fq810_1, fq810_2, fq810_3, fq810_4, fq810_5, fq810_6⟩) (by decide) (by decide)

abbrev c50 : ByteArray := jdk_94_method_23_code
theorem d50_0 : decode c50 0 = .ok (.iconst 0, 1) := by decide +kernel
theorem d50_1 : decode c50 1 = .ok (.ireturn, 1) := by decide +kernel
theorem ef_rm_re (m : MethodId) (mp : Addr) (en : Addr)  : entryFrame m #[(.ref mp), (.ref en)] 2 = mkF m 0 #[vR mp, vR en] [] := by  first | (simp [entryFrame, mkF, argsToLocals, Value.category, maxLocals]; done) | rfl
def Q_rm_re (Z : State) (mp : Addr) (en : Addr) (h0 : Heap) (n0 : Nat) (v : Option Value) (h : Heap) (L : List Loc) : Prop := (v = some (.int (0 : Int32))) ∧ (Fr n0 L) ∧ (h = h0)
set_option maxRecDepth 65536 in
set_option maxHeartbeats 40000000 in
theorem rm_re (l : Launch) (Z : State) (a0 : Array Value) (hw : ∀ d ∈ tables_1, d.before a0 Z = true) (ws : List Jvm.Cond) (mp : Addr) (en : Addr) (h0 : Heap) (n0 : Nat) (Z0 : n0 ≤ h0.size)  :
    MetN l Z y_53 c50 2 (some .boolean) ws (Rm 0 0 0 0) #[(.ref mp), (.ref en)] h0 (Q_rm_re Z mp en h0 n0) := by
 refine MetFree.of_bodySF (plainFor_of_name pn_java_util_LinkedHashMap) hisR ?_
 intro p e s m args below meth c s₁ Bd hml0 hP hK
 obtain ⟨rfl, hZ, hh⟩ := hP
 have hx := Bd.exec
 have hby := Bd.bytes
 have hml : c.maxLocals = 2 := hml0
 have hown : s.vm.findClass "java/util/LinkedHashMap" = some m.cls := findClass_of_methodNamed Bd.named
 have X0 : Stand p l e (Rm 0 0 0 0) s m #[(.ref mp), (.ref en)] below meth c s₁ [] 0 0 := Stand.of_body Bd
 have e0 : s₁.heap = h0 := by rw [← hh, Bd.state]; rfl
 have N0 := Fr.nil n0
 have K00 : Keep h0 h0 [] := Keep.refl _ _
 show Rch p e below s₁ (entryFrame m #[(.ref mp), (.ref en)] 2) (FinP s (Q_rm_re Z mp en h0 n0) 0 0)
 refine Rch.cast (ef_rm_re m mp en) ?_
 show Rch p e below s₁ (mkF m 0 #[vR mp, vR en] []) _
 refine w_iconst (pc' := 1) (v := 0) X0 hx hby d50_0 rfl rfl ?_
 exact Rch.retV X0 hx Bd.returns rfl (Or.inl ⟨rfl, by simp, _, rfl⟩) (hb hby d50_1) (by rw [e0]; exact ⟨rfl, N0, rfl⟩) (by decide) (by decide)

abbrev c51 : ByteArray := jdk_94_method_9_code
theorem d51_0 : decode c51 0 = .ok (.iload_n 1, 1) := by decide +kernel
theorem d51_1 : decode c51 1 = .ok (.ifCond .eq 38, 3) := by decide +kernel
theorem d51_4 : decode c51 4 = .ok (.aload_n 0, 1) := by decide +kernel
theorem d51_5 : decode c51 5 = .ok (.getfield 7, 3) := by decide +kernel
theorem d51_8 : decode c51 8 = .ok (.dup, 1) := by decide +kernel
theorem d51_9 : decode c51 9 = .ok (.astore_n 2, 1) := by decide +kernel
theorem d51_10 : decode c51 10 = .ok (.ifnull 29, 3) := by decide +kernel
theorem d51_13 : decode c51 13 = .ok (.aload_n 0, 1) := by decide +kernel
theorem d51_14 : decode c51 14 = .ok (.aload_n 2, 1) := by decide +kernel
theorem d51_15 : decode c51 15 = .ok (.invokevirtual 53, 3) := by decide +kernel
theorem d51_18 : decode c51 18 = .ok (.ifCond .eq 21, 3) := by decide +kernel
theorem d51_39 : decode c51 39 = .ok (.return_, 1) := by decide +kernel
theorem ef_rm_ai (m : MethodId) (mp : Addr) (en : Addr)  : entryFrame m #[(.ref mp), (.int (1 : Int32))] 4 = mkF m 0 #[vR mp, vI 1, U, U] [] := by  first | (simp [entryFrame, mkF, argsToLocals, Value.category, maxLocals]; done) | rfl
def Q_rm_ai (Z : State) (mp : Addr) (en : Addr) (h0 : Heap) (n0 : Nat) (v : Option Value) (h : Heap) (L : List Loc) : Prop := (v = none) ∧ (Fr n0 L) ∧ (h = h0)
theorem pd__Ljava_util_Map_Entry__Z : parseMethodDescriptor "(Ljava/util/Map$Entry;)Z" = some ⟨[(.object "java/util/Map$Entry")], (some .boolean)⟩ := by decide +kernel
set_option maxRecDepth 65536 in
set_option maxHeartbeats 40000000 in
theorem rm_ai (l : Launch) (Z : State) (a0 : Array Value) (hw : ∀ d ∈ tables_1, d.before a0 Z = true) (ws : List Jvm.Cond) (mp : Addr) (en : Addr) (h0 : Heap) (n0 : Nat) (Z0 : n0 ≤ h0.size) (f0 : Exa Z h0 mp "java/util/LinkedHashMap") (f1 : Fld Z h0 mp "java/util/LinkedHashMap" "head" "Ljava/util/LinkedHashMap$Entry;" (.ref en)) :
    MetN l Z y_54 c51 4 none ws (Rm 1 0 0 13) #[(.ref mp), (.int (1 : Int32))] h0 (Q_rm_ai Z mp en h0 n0) := by
 refine MetFree.of_bodySF (plainFor_of_name pn_java_util_LinkedHashMap) hisR ?_
 intro p e s m args below meth c s₁ Bd hml0 hP hK
 obtain ⟨rfl, hZ, hh⟩ := hP
 have hx := Bd.exec
 have hby := Bd.bytes
 have hml : c.maxLocals = 4 := hml0
 have hown : s.vm.findClass "java/util/LinkedHashMap" = some m.cls := findClass_of_methodNamed Bd.named
 have X0 : Stand p l e (Rm 1 0 0 13) s m #[(.ref mp), (.int (1 : Int32))] below meth c s₁ [] 0 0 := Stand.of_body Bd
 have e0 : s₁.heap = h0 := by rw [← hh, Bd.state]; rfl
 have N0 := Fr.nil n0
 have K00 : Keep h0 h0 [] := Keep.refl _ _
 show Rch p e below s₁ (entryFrame m #[(.ref mp), (.int (1 : Int32))] 4) (FinP s (Q_rm_ai Z mp en h0 n0) 0 0)
 refine Rch.cast (ef_rm_ai m mp en) ?_
 show Rch p e below s₁ (mkF m 0 #[vR mp, vI 1, U, U] []) _
 refine w_iloadN (pc' := 1) X0 hx hby d51_0 rfl rfl ?_
 refine w_ifNo (pc' := 4) X0 hx hby d51_1 (XT.i0_eq_f (by decide)) rfl ?_
 refine w_aloadN (pc' := 5) X0 hx hby d51_4 rfl rfl rfl ?_
 obtain ⟨T816, X816, e816, st816⟩ := getF X0 hx hZ hown (host := "") (Or.inl (wi hw 244 rfl)) Via.refl e0 f1 (g := (mkF m 5 #[vR mp, vI 1, U, U] [(.ref mp)])) rfl rfl (hb hby d51_5)
 refine Rch.st (fun _ k => st816 _ k) ?_
 show Rch p e below T816 (mkF m 8 #[vR mp, vI 1, U, U] [(.ref en)]) _
 refine w_dup (pc' := 9) X816 hx hby d51_8 rfl rfl ?_
 refine w_astoreN (pc' := 10) (l' := #[vR mp, vI 1, vR en, U]) X816 hx hby d51_9 rfl rfl rfl ?_
 refine w_nullNo (pc' := 13) X816 hx hby d51_10 rfl (fun q => nomatch q) rfl ?_
 refine w_aloadN (pc' := 14) X816 hx hby d51_13 rfl rfl rfl ?_
 refine w_aloadN (pc' := 15) X816 hx hby d51_14 rfl rfl rfl ?_
 obtain ⟨cq817, kq817, q817a, q817b, q817c⟩ := isOf hZ e816 f0
 obtain ⟨_, _, ⟨T817, L817, k817, n817⟩, -, X817, ⟨Lc817, hQ817, l817, y817, z817⟩, st817⟩ := X816.virtualBack hx (y := y_53) (z := y_53) hown (mvT hZ (wi hw 252 rfl)) (mvT hZ (wi hw 253 rfl)) (notFace_of_selects (args := #[]) (mvT hZ (wi hw 255 rfl))) (mvT hZ (wi hw 255 rfl)) (mvT hZ (wi hw 254 rfl)) (by decide) (backOf (W := 0) (rm_re l Z a0 hw [] mp en h0 n0 Z0 ) hZ (wi hw 256 rfl) (wi hw 46 rfl) (by decide) (by decide)) q817a q817c (g := (mkF m 15 #[vR mp, vI 1, vR en, U] [(.ref en), (.ref mp)])) rfl (by rw [hml]; rfl) (Steps.refl _) (argsL := [(.ref en)]) (rest := []) (lenOf pd__Ljava_util_Map_Entry__Z rfl) rfl (by show 2 * 0 + _ ≤ _; exact Nat.le_of_eq rfl) (hb hby d51_15) (fun _ _ => ⟨rfl, e816, (by decide : 0 + 0 ≤ _), (by decide : 0 + 0 ≤ _)⟩)
 dsimp only [Pt.U, Pt.locs, Pt.cells, Pt.slots] at X817 l817 y817 z817 st817 hQ817
 subst l817 y817 z817
 obtain ⟨rfl, NQ817, K817⟩ := hQ817
 have N818 := Fr.app N0 NQ817
 refine Rch.st (fun _ k => st817.trans k) ?_
 show Rch p e below T817 (mkF m 18 #[vR mp, vI 1, vR en, U] [(.int 0)]) _
 refine w_ifYes (pc' := 39) X817 hx hby d51_18 (XT.i0_eq_t (by decide)) (by decide) ?_
 exact Rch.ret0 X817 hx Bd.returns (hb hby d51_39) (by rw [K817]; exact ⟨rfl, N818, rfl⟩) (by decide) (by decide)

abbrev c52 : ByteArray := prog_50_method_15_code
theorem d52_0 : decode c52 0 = .ok (.new 2, 3) := by decide +kernel
theorem d52_3 : decode c52 3 = .ok (.dup, 1) := by decide +kernel
theorem d52_4 : decode c52 4 = .ok (.aload_n 1, 1) := by decide +kernel
theorem d52_5 : decode c52 5 = .ok (.invokevirtual 119, 3) := by decide +kernel
theorem d52_8 : decode c52 8 = .ok (.invokevirtual 121, 3) := by decide +kernel
theorem d52_11 : decode c52 11 = .ok (.ifCond .eq 10, 3) := by decide +kernel
theorem d52_14 : decode c52 14 = .ok (.aload_n 0, 1) := by decide +kernel
theorem d52_15 : decode c52 15 = .ok (.getfield 29, 3) := by decide +kernel
theorem d52_18 : decode c52 18 = .ok (.goto 32, 3) := by decide +kernel
theorem d52_21 : decode c52 21 = .ok (.new 124, 3) := by decide +kernel
theorem d52_24 : decode c52 24 = .ok (.dup, 1) := by decide +kernel
theorem d52_25 : decode c52 25 = .ok (.invokespecial 126, 3) := by decide +kernel
theorem d52_28 : decode c52 28 = .ok (.aload_n 0, 1) := by decide +kernel
theorem d52_29 : decode c52 29 = .ok (.getfield 29, 3) := by decide +kernel
theorem d52_32 : decode c52 32 = .ok (.invokevirtual 127, 3) := by decide +kernel
theorem d52_35 : decode c52 35 = .ok (.ldc 131, 2) := by decide +kernel
theorem d52_37 : decode c52 37 = .ok (.invokevirtual 127, 3) := by decide +kernel
theorem d52_40 : decode c52 40 = .ok (.aload_n 1, 1) := by decide +kernel
theorem d52_41 : decode c52 41 = .ok (.invokevirtual 119, 3) := by decide +kernel
theorem d52_44 : decode c52 44 = .ok (.invokevirtual 127, 3) := by decide +kernel
theorem d52_47 : decode c52 47 = .ok (.invokevirtual 133, 3) := by decide +kernel
theorem d52_50 : decode c52 50 = .ok (.aconst_null, 1) := by decide +kernel
theorem d52_51 : decode c52 51 = .ok (.aconst_null, 1) := by decide +kernel
theorem d52_52 : decode c52 52 = .ok (.aload_n 0, 1) := by decide +kernel
theorem d52_53 : decode c52 53 = .ok (.invokespecial 1, 3) := by decide +kernel
theorem d52_56 : decode c52 56 = .ok (.areturn, 1) := by decide +kernel
theorem ef_rm_lam_e (m : MethodId) (G6 : Addr) (th : Addr) (nm : Addr) (fd : Addr) (fs : Addr) (fb : Addr) (kfb : ClassId) (fv : List Value) (fdd : Value) (ky : Addr)  : entryFrame m #[(.ref th), (.ref fd), (.ref ky)] 3 = mkF m 0 #[vR th, vR fd, vR ky] [] := by  first | (simp [entryFrame, mkF, argsToLocals, Value.category, maxLocals]; done) | rfl
def Q_rm_lam_e (Z : State) (G6 : Addr) (th : Addr) (nm : Addr) (fd : Addr) (fs : Addr) (fb : Addr) (kfb : ClassId) (fv : List Value) (fdd : Value) (ky : Addr) (h0 : Heap) (n0 : Nat) (v : Option Value) (h : Heap) (vm : Vm) (L : List Loc) : Prop := ∃ (nv : Addr) (m2 : Addr), (v = some (.ref nv)) ∧ (Fr n0 L) ∧ (Keep h0 h []) ∧ (h0.size ≤ nv) ∧ (h0.size ≤ m2) ∧ (Exa Z h nv "com/example/mandoline/mandoline/Variable") ∧ (Fld Z h nv "com/example/mandoline/mandoline/Variable" "fields" "Ljava/util/Map;" (.ref m2)) ∧ (Fld Z h nv "com/example/mandoline/mandoline/Variable" "name" "Ljava/lang/String;" (.ref nm)) ∧ (Fld Z h nv "com/example/mandoline/mandoline/Variable" "containing" "Lcom/example/mandoline/mandoline/Variable;" (.ref th)) ∧ (Exa Z h m2 "java/util/LinkedHashMap") ∧ (Fld Z h m2 "java/util/HashMap" "table" "[Ljava/util/HashMap$Node;" .null) ∧ (Fld Z h m2 "java/util/HashMap" "size" "I" (.int (0 : Int32))) ∧ (Fld Z h m2 "java/util/HashMap" "modCount" "I" (.int (0 : Int32))) ∧ (Fld Z h m2 "java/util/HashMap" "threshold" "I" (.int (0 : Int32))) ∧ (Fld Z h m2 "java/util/LinkedHashMap" "putMode" "I" (.int (0 : Int32))) ∧ (Fld Z h m2 "java/util/LinkedHashMap" "head" "Ljava/util/LinkedHashMap$Entry;" .null) ∧ (Fld Z h m2 "java/util/LinkedHashMap" "tail" "Ljava/util/LinkedHashMap$Entry;" .null) ∧ (IB Z vm ([""] : List String))
theorem pd___Ljava_lang_String_ : parseMethodDescriptor "()Ljava/lang/String;" = some ⟨[], (some (.object "java/lang/String"))⟩ := by decide +kernel
theorem pd__Ljava_lang_String_Lcom_example_mandoline_mandoline_ClangNode_Ljava_lang_String_Lcom_example_mandoline_mandoline_Variable__V : parseMethodDescriptor "(Ljava/lang/String;Lcom/example/mandoline/mandoline/ClangNode;Ljava/lang/String;Lcom/example/mandoline/mandoline/Variable;)V" = some ⟨[(.object "java/lang/String"), (.object "com/example/mandoline/mandoline/ClangNode"), (.object "java/lang/String"), (.object "com/example/mandoline/mandoline/Variable")], none⟩ := by decide +kernel
set_option maxRecDepth 65536 in
set_option maxHeartbeats 40000000 in
theorem rm_lam_e (l : Launch) (Z : State) (a0 : Array Value) (hw : ∀ d ∈ tables_1, d.before a0 Z = true) (ws : List Jvm.Cond) (G6 : Addr) (th : Addr) (nm : Addr) (fd : Addr) (fs : Addr) (fb : Addr) (kfb : ClassId) (fv : List Value) (fdd : Value) (ky : Addr) (h0 : Heap) (n0 : Nat) (Z0 : n0 ≤ h0.size) (O6 : Sta Z Z.heap "java/util/ImmutableCollections" "EMPTY_LIST" "Ljava/util/ImmutableCollections$ListN;" (.ref G6)) (f1 : Exa Z h0 th "com/example/mandoline/mandoline/Variable") (f2 : Fld Z h0 th "com/example/mandoline/mandoline/Variable" "name" "Ljava/lang/String;" (.ref nm)) (f3 : Exa Z h0 fd "com/example/mandoline/mandoline/Place$Field") (f4 : Fld Z h0 fd "com/example/mandoline/mandoline/Place$Field" "name" "Ljava/lang/String;" (.ref fs)) (f5 : Exa Z h0 fs "java/lang/String") (f6 : Fld Z h0 fs "java/lang/String" "coder" "B" (.int (0 : Int32))) (f7 : Fld Z h0 fs "java/lang/String" "value" "[B" (.ref fb)) (f8 : Arv Z h0 fb kfb .byte (0 : Int32) fv fdd) (Old0 : OldL Z n0 h0) :
    MetW l Z y_1 c52 3 (some (.object "com/example/mandoline/mandoline/Variable")) ws (Rm 5 2 18 67) #[(.ref th), (.ref fd), (.ref ky)] h0 (fun vm => IB Z vm ([""] : List String)) (Q_rm_lam_e Z G6 th nm fd fs fb kfb fv fdd ky h0 n0) := by
 refine MetFree.of_bodySF (plainFor_of_name pn_com_example_mandoline_mandoline_Variable) hisR ?_
 intro p e s m args below meth c s₁ Bd hml0 hP hK
 obtain ⟨rfl, hZ, hh, hI⟩ := hP
 have hx := Bd.exec
 have hby := Bd.bytes
 have hml : c.maxLocals = 3 := hml0
 have hown : s.vm.findClass "com/example/mandoline/mandoline/Variable" = some m.cls := findClass_of_methodNamed Bd.named
 have X0 : Stand p l e (Rm 5 2 18 67) (s.setVm s.vm) m #[(.ref th), (.ref fd), (.ref ky)] below meth c s₁ [] 0 0 := Stand.of_body Bd
 have e0 : s₁.heap = h0 := by rw [← hh, Bd.state]; rfl
 have N0 := Fr.nil n0
 have K00 : Keep h0 h0 [] := Keep.refl _ _
 have hS0 : s.Since s.vm s.heap.size := (State.WarmedH.refl s).since _
 have hk0 : s.heap.size ≤ h0.size := by rw [hh]; exact Nat.le_refl _
 have hkeep : ∀ (b : Addr) (cl : Cell), Z.heap[b]? = some cl → s.heap[b]? = some cl := by rw [hh]; exact Old0.2.2
 show Rch p e below s₁ (entryFrame m #[(.ref th), (.ref fd), (.ref ky)] 3) (FinW s (Q_rm_lam_e Z G6 th nm fd fs fb kfb fv fdd ky h0 n0) 2 18)
 refine Rch.cast (ef_rm_lam_e m G6 th nm fd fs fb kfb fv fdd ky) ?_
 have Z0f := Nat.le_refl h0.size
 have N0f := Fr.nil h0.size
 have OldF := Old0.up Z0
 show Rch p e below s₁ (mkF m 0 #[vR th, vR fd, vR ky] []) _
 obtain ⟨T819, h819, X819, e819, E819, A819, D819, -, st819⟩ := newO X0 hx hZ hown (wi hw 198 rfl) (wi hw 35 rfl) (wi hw 36 rfl) e0 (g := (mkF m 0 #[vR th, vR fd, vR ky] [])) rfl (hb hby d52_0) (by decide) (by decide)
 obtain ⟨a819, g819⟩ : ∃ z, z = h0.size := ⟨_, rfl⟩
 rw [← g819] at A819 D819 st819
 have ge824 : h0.size ≤ a819 := Nat.le_trans Z0f (Nat.le_of_eq g819.symm)
 have hk826 := Nat.le_trans hk0 E819.1
 have f828 := f2.ext E819
 have f829 := f3.ext E819
 have f830 := f4.ext E819
 have f831 := f5.ext E819
 have f833 := f7.ext E819
 have f834 := f8.ext E819
 have Old835 := OldF.ext E819
 have Z836 := Nat.le_trans Z0f E819.1
 have Kp837 : Keep h0 h819 [] := K00.ext E819
 have f838 : Fld Z h819 a819 "com/example/mandoline/mandoline/Variable" "fields" "Ljava/util/Map;" .null := D819 (Or.inr (wi hw 71 rfl)) (ty := (.object "java/util/Map")) (by decide)
 have f839 : Fld Z h819 a819 "com/example/mandoline/mandoline/Variable" "declarationNodes" "Ljava/util/List;" .null := D819 (Or.inl (wi hw 79 rfl)) (ty := (.object "java/util/List")) (by decide)
 have f840 : Fld Z h819 a819 "com/example/mandoline/mandoline/Variable" "name" "Ljava/lang/String;" .null := D819 (Or.inr (wi hw 81 rfl)) (ty := (.object "java/lang/String")) (by decide)
 have f841 : Fld Z h819 a819 "com/example/mandoline/mandoline/Variable" "declaringStatement" "Lcom/example/mandoline/mandoline/ClangNode;" .null := D819 (Or.inr (wi hw 83 rfl)) (ty := (.object "com/example/mandoline/mandoline/ClangNode")) (by decide)
 have f842 : Fld Z h819 a819 "com/example/mandoline/mandoline/Variable" "function" "Ljava/lang/String;" .null := D819 (Or.inr (wi hw 85 rfl)) (ty := (.object "java/lang/String")) (by decide)
 have f843 : Fld Z h819 a819 "com/example/mandoline/mandoline/Variable" "containing" "Lcom/example/mandoline/mandoline/Variable;" .null := D819 (Or.inr (wi hw 87 rfl)) (ty := (.object "com/example/mandoline/mandoline/Variable")) (by decide)
 refine Rch.st (fun _ k => st819 _ k) ?_
 show Rch p e below T819 (mkF m 3 #[vR th, vR fd, vR ky] [(.ref a819)]) _
 refine w_dup (pc' := 4) X819 hx hby d52_3 rfl rfl ?_
 refine w_aloadN (pc' := 5) X819 hx hby d52_4 rfl rfl rfl ?_
 obtain ⟨cq844, kq844, q844a, q844b, q844c⟩ := isOf hZ e819 f829
 obtain ⟨_, _, ⟨T844, L844, k844, n844⟩, -, X844, ⟨Lc844, hQ844, l844, y844, z844⟩, st844⟩ := X819.virtualBack hx (y := y_40) (z := y_40) hown (mvT hZ (wi hw 199 rfl)) (mvT hZ (wi hw 200 rfl)) (notFace_of_selects (args := #[]) (mvT hZ (wi hw 202 rfl))) (mvT hZ (wi hw 202 rfl)) (mvT hZ (wi hw 201 rfl)) (by decide) (backOf (W := 2) (rm_nm l Z a0 hw [] fd fs h819 h0.size Z836 f830) hZ (wi hw 203 rfl) (wi hw 109 rfl) (by decide) (by decide)) q844a q844c (g := (mkF m 5 #[vR th, vR fd, vR ky] [(.ref fd), (.ref a819), (.ref a819)])) rfl (by rw [hml]; rfl) (Steps.refl _) (argsL := []) (rest := [(.ref a819), (.ref a819)]) (lenOf pd___Ljava_lang_String_ rfl) rfl (by show 2 * 0 + _ ≤ _; exact Nat.le_of_eq rfl) (hb hby d52_5) (fun _ _ => ⟨rfl, e819, (by decide : 1 + 0 ≤ _), (by decide : 6 + 0 ≤ _)⟩)
 dsimp only [Pt.U, Pt.locs, Pt.cells, Pt.slots] at X844 l844 y844 z844 st844 hQ844
 subst l844 y844 z844
 obtain ⟨rfl, NQ844, K844⟩ := hQ844
 have N845 := Fr.app N0f NQ844
 refine Rch.st (fun _ k => st844.trans k) ?_
 show Rch p e below T844 (mkF m 8 #[vR th, vR fd, vR ky] [(.ref fs), (.ref a819), (.ref a819)]) _
 obtain ⟨cq846, kq846, q846a, q846b, q846c⟩ := isOf hZ K844 f831
 obtain ⟨_, _, ⟨T846, L846, k846, n846⟩, -, X846, ⟨Lc846, hQ846, l846, y846, z846⟩, st846⟩ := X844.virtualBack hx (y := y_41) (z := y_41) hown (mvT hZ (wi hw 204 rfl)) (mvT hZ (wi hw 205 rfl)) (notFace_of_selects (args := #[]) (mvT hZ (wi hw 207 rfl))) (mvT hZ (wi hw 207 rfl)) (mvT hZ (wi hw 206 rfl)) (by decide) (backOf (W := 2) (rm_ie0 l Z a0 hw [] fs fb kfb fv fdd h819 h0.size Z836 f833 f834) hZ (wi hw 208 rfl) (wi hw 7 rfl) (by decide) (by decide)) q846a q846c (g := (mkF m 8 #[vR th, vR fd, vR ky] [(.ref fs), (.ref a819), (.ref a819)])) rfl (by rw [hml]; rfl) (Steps.refl _) (argsL := []) (rest := [(.ref a819), (.ref a819)]) (lenOf pd___Z rfl) rfl (by show 2 * 0 + _ ≤ _; exact Nat.le_of_eq rfl) (hb hby d52_8) (fun _ _ => ⟨rfl, K844, (by decide : 1 + 0 ≤ _), (by decide : 6 + 0 ≤ _)⟩)
 dsimp only [Pt.U, Pt.locs, Pt.cells, Pt.slots] at X846 l846 y846 z846 st846 hQ846
 subst l846 y846 z846
 obtain ⟨rfl, NQ846, K846⟩ := hQ846
 have N847 := Fr.app N845 NQ846
 refine Rch.st (fun _ k => st846.trans k) ?_
 show Rch p e below T846 (mkF m 11 #[vR th, vR fd, vR ky] [(.int 1), (.ref a819), (.ref a819)]) _
 refine w_ifNo (pc' := 14) X846 hx hby d52_11 (XT.i0_eq_f (by decide)) rfl ?_
 refine w_aloadN (pc' := 15) X846 hx hby d52_14 rfl rfl rfl ?_
 obtain ⟨T848, X848, e848, st848⟩ := getF X846 hx hZ hown (host := "") (Or.inl (wi hw 80 rfl)) Via.refl K846 f828 (g := (mkF m 15 #[vR th, vR fd, vR ky] [(.ref th), (.ref a819), (.ref a819)])) rfl rfl (hb hby d52_15)
 refine Rch.st (fun _ k => st848 _ k) ?_
 show Rch p e below T848 (mkF m 18 #[vR th, vR fd, vR ky] [(.ref nm), (.ref a819), (.ref a819)]) _
 refine w_goto (pc' := 50) X848 hx hby d52_18 (by decide) ?_
 refine w_aconstNull (pc' := 51) X848 hx hby d52_50 rfl ?_
 refine w_aconstNull (pc' := 52) X848 hx hby d52_51 rfl ?_
 refine w_aloadN (pc' := 53) X848 hx hby d52_52 rfl rfl rfl ?_
 obtain ⟨_, _, ⟨T849, L849, k849, n849⟩, -, X849, ⟨Lc849, hQ849, l849, y849, z849⟩, st849⟩ := X848.specialBack hx (y := y_36) rfl hown (mvT hZ (wi hw 40 rfl)) (mvT hZ (wi hw 41 rfl)) (mvT hZ (wi hw 42 rfl)) (by decide) (backOf (W := 1) (rm_v4 l Z a0 hw [] G6 a819 nm .null .null (.ref th) h819 h0.size Z836 (O6) A819 f838 f839 f840 f841 f842 f843 (ge824) (rfl) (rfl) (rfl) Old835) hZ (wi hw 42 rfl) (wi hw 36 rfl) (by decide) (by decide)) (g := (mkF m 53 #[vR th, vR fd, vR ky] [(.ref th), .null, .null, (.ref nm), (.ref a819), (.ref a819)])) rfl (by rw [hml]; rfl) (Steps.refl _) (a := a819) (argsL := [(.ref nm), .null, .null, (.ref th)]) (rest := [(.ref a819)]) (lenOf pd__Ljava_lang_String_Lcom_example_mandoline_mandoline_ClangNode_Ljava_lang_String_Lcom_example_mandoline_mandoline_Variable__V rfl) rfl (by show 2 * 0 + _ ≤ _; exact Nat.le_of_eq rfl) (hb hby d52_53) (fun _ _ => ⟨rfl, e848, (by decide : 1 + 1 ≤ _), (by decide : 6 + 12 ≤ _)⟩)
 dsimp only [Pt.U, Pt.locs, Pt.cells, Pt.slots] at X849 l849 y849 z849 st849 hQ849
 subst l849 y849 z849
 obtain ⟨m2_849, rfl, NQ849, K849, pq849_0, fq849_0, fq849_1, fq849_2, fq849_3, fq849_4, fq849_5, fq849_6, fq849_7, fq849_8, fq849_9, fq849_10, fq849_11, fq849_12⟩ := hQ849
 have N850 := Fr.app N847 NQ849
 have f865 := A819.keep K849
 have Kp867 : Keep h0 T849.heap [] := Kp837.trans K849 (allS (Or.inr (Nat.le_trans K00.1 (Nat.le_of_eq g819.symm))) all0)
 have hk869 := Nat.le_trans hk826 K849.1
 refine Rch.st (fun _ k => st849.trans k) ?_
 show Rch p e below T849 (mkF m 56 #[vR th, vR fd, vR ky] [(.ref a819)]) _
 exact Rch.retVW X849 hx hS0 (by rw [(rfl : T849.heap = T849.heap)]; exact hk869) Bd.returns rfl (Or.inr (Or.inr (Or.inr (Or.inr ⟨rfl, rfl, rfl⟩)))) (hb hby d52_56) (by rw [(rfl : T849.heap = T849.heap)]; exact ⟨a819, m2_849, rfl, (own_Fr Z0 N850), Kp867, (Nat.le_trans K00.1 (Nat.le_of_eq g819.symm)), (Nat.le_trans Kp837.1 pq849_0), f865, fq849_0, fq849_1, fq849_3, fq849_5, fq849_6, fq849_7, fq849_8, fq849_9, fq849_10, fq849_11, fq849_12, own_ib_mono (own_ib (s := s.setVm s.vm) hI X849.warmed) (by decide)⟩) (by decide) (by decide)

abbrev c53 : ByteArray := jdk_69_method_35_code
theorem d53_0 : decode c53 0 = .ok (.aload_n 2, 1) := by decide +kernel
theorem d53_1 : decode c53 1 = .ok (.ifnonnull 11, 3) := by decide +kernel
theorem d53_12 : decode c53 12 = .ok (.aload_n 1, 1) := by decide +kernel
theorem d53_13 : decode c53 13 = .ok (.invokestatic 149, 3) := by decide +kernel
theorem d53_16 : decode c53 16 = .ok (.istore_n 3, 1) := by decide +kernel
theorem d53_17 : decode c53 17 = .ok (.iconst 0, 1) := by decide +kernel
theorem d53_18 : decode c53 18 = .ok (.istore 8, 2) := by decide +kernel
theorem d53_20 : decode c53 20 = .ok (.aconst_null, 1) := by decide +kernel
theorem d53_21 : decode c53 21 = .ok (.astore 9, 2) := by decide +kernel
theorem d53_23 : decode c53 23 = .ok (.aconst_null, 1) := by decide +kernel
theorem d53_24 : decode c53 24 = .ok (.astore 10, 2) := by decide +kernel
theorem d53_26 : decode c53 26 = .ok (.aload_n 0, 1) := by decide +kernel
theorem d53_27 : decode c53 27 = .ok (.getfield 156, 3) := by decide +kernel
theorem d53_30 : decode c53 30 = .ok (.aload_n 0, 1) := by decide +kernel
theorem d53_31 : decode c53 31 = .ok (.getfield 88, 3) := by decide +kernel
theorem d53_34 : decode c53 34 = .ok (.if_icmp .gt 22, 3) := by decide +kernel
theorem d53_37 : decode c53 37 = .ok (.aload_n 0, 1) := by decide +kernel
theorem d53_38 : decode c53 38 = .ok (.getfield 105, 3) := by decide +kernel
theorem d53_41 : decode c53 41 = .ok (.dup, 1) := by decide +kernel
theorem d53_42 : decode c53 42 = .ok (.astore 4, 2) := by decide +kernel
theorem d53_44 : decode c53 44 = .ok (.ifnull 12, 3) := by decide +kernel
theorem d53_56 : decode c53 56 = .ok (.aload_n 0, 1) := by decide +kernel
theorem d53_57 : decode c53 57 = .ok (.invokevirtual 117, 3) := by decide +kernel
theorem d53_60 : decode c53 60 = .ok (.dup, 1) := by decide +kernel
theorem d53_61 : decode c53 61 = .ok (.astore 4, 2) := by decide +kernel
theorem d53_63 : decode c53 63 = .ok (.arraylength, 1) := by decide +kernel
theorem d53_64 : decode c53 64 = .ok (.istore 6, 2) := by decide +kernel
theorem d53_66 : decode c53 66 = .ok (.aload 4, 2) := by decide +kernel
theorem d53_68 : decode c53 68 = .ok (.iload 6, 2) := by decide +kernel
theorem d53_70 : decode c53 70 = .ok (.iconst 1, 1) := by decide +kernel
theorem d53_71 : decode c53 71 = .ok (.isub, 1) := by decide +kernel
theorem d53_72 : decode c53 72 = .ok (.iload_n 3, 1) := by decide +kernel
theorem d53_73 : decode c53 73 = .ok (.iand, 1) := by decide +kernel
theorem d53_74 : decode c53 74 = .ok (.dup, 1) := by decide +kernel
theorem d53_75 : decode c53 75 = .ok (.istore 7, 2) := by decide +kernel
theorem d53_77 : decode c53 77 = .ok (.aaload, 1) := by decide +kernel
theorem d53_78 : decode c53 78 = .ok (.dup, 1) := by decide +kernel
theorem d53_79 : decode c53 79 = .ok (.astore 5, 2) := by decide +kernel
theorem d53_81 : decode c53 81 = .ok (.ifnull 113, 3) := by decide +kernel
theorem d53_194 : decode c53 194 = .ok (.aload_n 0, 1) := by decide +kernel
theorem d53_195 : decode c53 195 = .ok (.getfield 202, 3) := by decide +kernel
theorem d53_198 : decode c53 198 = .ok (.istore 11, 2) := by decide +kernel
theorem d53_200 : decode c53 200 = .ok (.aload_n 2, 1) := by decide +kernel
theorem d53_201 : decode c53 201 = .ok (.aload_n 1, 1) := by decide +kernel
theorem d53_202 : decode c53 202 = .ok (.invokeinterface 274 2, 5) := by decide +kernel
theorem d53_207 : decode c53 207 = .ok (.astore 12, 2) := by decide +kernel
theorem d53_209 : decode c53 209 = .ok (.iload 11, 2) := by decide +kernel
theorem d53_211 : decode c53 211 = .ok (.aload_n 0, 1) := by decide +kernel
theorem d53_212 : decode c53 212 = .ok (.getfield 202, 3) := by decide +kernel
theorem d53_215 : decode c53 215 = .ok (.if_icmp .eq 11, 3) := by decide +kernel
theorem d53_226 : decode c53 226 = .ok (.aload 12, 2) := by decide +kernel
theorem d53_228 : decode c53 228 = .ok (.ifnonnull 5, 3) := by decide +kernel
theorem d53_233 : decode c53 233 = .ok (.aload 10, 2) := by decide +kernel
theorem d53_235 : decode c53 235 = .ok (.ifnull 19, 3) := by decide +kernel
theorem d53_254 : decode c53 254 = .ok (.aload 9, 2) := by decide +kernel
theorem d53_256 : decode c53 256 = .ok (.ifnull 19, 3) := by decide +kernel
theorem d53_275 : decode c53 275 = .ok (.aload 4, 2) := by decide +kernel
theorem d53_277 : decode c53 277 = .ok (.iload 7, 2) := by decide +kernel
theorem d53_279 : decode c53 279 = .ok (.aload_n 0, 1) := by decide +kernel
theorem d53_280 : decode c53 280 = .ok (.iload_n 3, 1) := by decide +kernel
theorem d53_281 : decode c53 281 = .ok (.aload_n 1, 1) := by decide +kernel
theorem d53_282 : decode c53 282 = .ok (.aload 12, 2) := by decide +kernel
theorem d53_284 : decode c53 284 = .ok (.aload 5, 2) := by decide +kernel
theorem d53_286 : decode c53 286 = .ok (.invokevirtual 186, 3) := by decide +kernel
theorem d53_289 : decode c53 289 = .ok (.aastore, 1) := by decide +kernel
theorem d53_290 : decode c53 290 = .ok (.iload 8, 2) := by decide +kernel
theorem d53_292 : decode c53 292 = .ok (.bipush 7, 2) := by decide +kernel
theorem d53_294 : decode c53 294 = .ok (.if_icmp .lt 10, 3) := by decide +kernel
theorem d53_304 : decode c53 304 = .ok (.aload_n 0, 1) := by decide +kernel
theorem d53_305 : decode c53 305 = .ok (.iload 11, 2) := by decide +kernel
theorem d53_307 : decode c53 307 = .ok (.iconst 1, 1) := by decide +kernel
theorem d53_308 : decode c53 308 = .ok (.iadd, 1) := by decide +kernel
theorem d53_309 : decode c53 309 = .ok (.putfield 202, 3) := by decide +kernel
theorem d53_312 : decode c53 312 = .ok (.aload_n 0, 1) := by decide +kernel
theorem d53_313 : decode c53 313 = .ok (.dup, 1) := by decide +kernel
theorem d53_314 : decode c53 314 = .ok (.getfield 156, 3) := by decide +kernel
theorem d53_317 : decode c53 317 = .ok (.iconst 1, 1) := by decide +kernel
theorem d53_318 : decode c53 318 = .ok (.iadd, 1) := by decide +kernel
theorem d53_319 : decode c53 319 = .ok (.putfield 156, 3) := by decide +kernel
theorem d53_322 : decode c53 322 = .ok (.aload_n 0, 1) := by decide +kernel
theorem d53_323 : decode c53 323 = .ok (.iconst 1, 1) := by decide +kernel
theorem d53_324 : decode c53 324 = .ok (.invokevirtual 205, 3) := by decide +kernel
theorem d53_327 : decode c53 327 = .ok (.aload 12, 2) := by decide +kernel
theorem d53_329 : decode c53 329 = .ok (.areturn, 1) := by decide +kernel
theorem ef_rm_ci_e (m : MethodId) (G1 : Int32) (G6 : Addr) (th : Addr) (nm : Addr) (fd : Addr) (fs : Addr) (fb : Addr) (kfb : ClassId) (fv : List Value) (fdd : Value) (ky : Addr) (kb : Addr) (kkb : ClassId) (b0 : Int32) (b1 : Int32) (hv : Int32) (hz : Int32) (mp : Addr) (fo : Addr) (cK : ClassId)  : entryFrame m #[(.ref mp), (.ref ky), (.ref fo)] 13 = mkF m 0 #[vR mp, vR ky, vR fo, U, U, U, U, U, U, U, U, U, U] [] := by  first | (simp [entryFrame, mkF, argsToLocals, Value.category, maxLocals]; done) | rfl
def Q_rm_ci_e (Z : State) (G1 : Int32) (G6 : Addr) (th : Addr) (nm : Addr) (fd : Addr) (fs : Addr) (fb : Addr) (kfb : ClassId) (fv : List Value) (fdd : Value) (ky : Addr) (kb : Addr) (kkb : ClassId) (b0 : Int32) (b1 : Int32) (hv : Int32) (hz : Int32) (mp : Addr) (fo : Addr) (cK : ClassId) (h0 : Heap) (n0 : Nat) (v : Option Value) (h : Heap) (vm : Vm) (L : List Loc) : Prop := ∃ (nv : Addr) (m2 : Addr) (x2 : Int32) (y2 : Int32), (v = some (.ref nv)) ∧ (Fr n0 L) ∧ (Keep h0 h [mp, ky]) ∧ (h0.size ≤ nv) ∧ (h0.size ≤ m2) ∧ (Exa Z h nv "com/example/mandoline/mandoline/Variable") ∧ (Fld Z h nv "com/example/mandoline/mandoline/Variable" "fields" "Ljava/util/Map;" (.ref m2)) ∧ (Fld Z h nv "com/example/mandoline/mandoline/Variable" "name" "Ljava/lang/String;" (.ref nm)) ∧ (Fld Z h nv "com/example/mandoline/mandoline/Variable" "containing" "Lcom/example/mandoline/mandoline/Variable;" (.ref th)) ∧ (Exa Z h m2 "java/util/LinkedHashMap") ∧ (Fld Z h m2 "java/util/HashMap" "table" "[Ljava/util/HashMap$Node;" .null) ∧ (Fld Z h m2 "java/util/HashMap" "size" "I" (.int (0 : Int32))) ∧ (Fld Z h m2 "java/util/HashMap" "modCount" "I" (.int (0 : Int32))) ∧ (Fld Z h m2 "java/util/HashMap" "threshold" "I" (.int (0 : Int32))) ∧ (Fld Z h m2 "java/util/LinkedHashMap" "putMode" "I" (.int (0 : Int32))) ∧ (Fld Z h m2 "java/util/LinkedHashMap" "head" "Ljava/util/LinkedHashMap$Entry;" .null) ∧ (Fld Z h m2 "java/util/LinkedHashMap" "tail" "Ljava/util/LinkedHashMap$Entry;" .null) ∧ (Fld Z h ky "java/lang/String" "coder" "B" (.int (0 : Int32))) ∧ (Fld Z h ky "java/lang/String" "value" "[B" (.ref kb)) ∧ (Fld Z h ky "java/lang/String" "hash" "I" (.int x2)) ∧ (Fld Z h ky "java/lang/String" "hashIsZero" "Z" (.int y2)) ∧ (IB Z vm ([""] : List String))
theorem pd__Ljava_lang_Object__I : parseMethodDescriptor "(Ljava/lang/Object;)I" = some ⟨[(.object "java/lang/Object")], (some .int)⟩ := by decide +kernel
theorem pd____Ljava_util_HashMap_Node_ : parseMethodDescriptor "()[Ljava/util/HashMap$Node;" = some ⟨[], (some (.array (.object "java/util/HashMap$Node")))⟩ := by decide +kernel
theorem pd__Ljava_lang_Object__Ljava_lang_Object_ : parseMethodDescriptor "(Ljava/lang/Object;)Ljava/lang/Object;" = some ⟨[(.object "java/lang/Object")], (some (.object "java/lang/Object"))⟩ := by decide +kernel
theorem pd__Lcom_example_mandoline_mandoline_Place_Field_Ljava_lang_String__Lcom_example_mandoline_mandoline_Variable_ : parseMethodDescriptor "(Lcom/example/mandoline/mandoline/Place$Field;Ljava/lang/String;)Lcom/example/mandoline/mandoline/Variable;" = some ⟨[(.object "com/example/mandoline/mandoline/Place$Field"), (.object "java/lang/String")], (some (.object "com/example/mandoline/mandoline/Variable"))⟩ := by decide +kernel
theorem pd__ILjava_lang_Object_Ljava_lang_Object_Ljava_util_HashMap_Node__Ljava_util_HashMap_Node_ : parseMethodDescriptor "(ILjava/lang/Object;Ljava/lang/Object;Ljava/util/HashMap$Node;)Ljava/util/HashMap$Node;" = some ⟨[.int, (.object "java/lang/Object"), (.object "java/lang/Object"), (.object "java/util/HashMap$Node")], (some (.object "java/util/HashMap$Node"))⟩ := by decide +kernel
theorem pd__Z_V : parseMethodDescriptor "(Z)V" = some ⟨[.boolean], none⟩ := by decide +kernel
set_option maxRecDepth 65536 in
set_option maxHeartbeats 40000000 in
theorem rm_ci_e (l : Launch) (Z : State) (a0 : Array Value) (hw : ∀ d ∈ tables_1, d.before a0 Z = true) (ws : List Jvm.Cond) (G1 : Int32) (G6 : Addr) (th : Addr) (nm : Addr) (fd : Addr) (fs : Addr) (fb : Addr) (kfb : ClassId) (fv : List Value) (fdd : Value) (ky : Addr) (kb : Addr) (kkb : ClassId) (b0 : Int32) (b1 : Int32) (hv : Int32) (hz : Int32) (mp : Addr) (fo : Addr) (cK : ClassId) (h0 : Heap) (n0 : Nat) (Z0 : n0 ≤ h0.size) (O2 : Sta Z Z.heap "java/lang/String" "COMPACT_STRINGS" "Z" (.int G1)) (P5 : ¬ G1 = 0) (O6 : Sta Z Z.heap "java/util/ImmutableCollections" "EMPTY_LIST" "Ljava/util/ImmutableCollections$ListN;" (.ref G6)) (f3 : Exa Z h0 th "com/example/mandoline/mandoline/Variable") (f4 : Fld Z h0 th "com/example/mandoline/mandoline/Variable" "name" "Ljava/lang/String;" (.ref nm)) (f5 : Exa Z h0 fd "com/example/mandoline/mandoline/Place$Field") (f6 : Fld Z h0 fd "com/example/mandoline/mandoline/Place$Field" "name" "Ljava/lang/String;" (.ref fs)) (f7 : Exa Z h0 fs "java/lang/String") (f8 : Fld Z h0 fs "java/lang/String" "coder" "B" (.int (0 : Int32))) (f9 : Fld Z h0 fs "java/lang/String" "value" "[B" (.ref fb)) (f10 : Arv Z h0 fb kfb .byte (0 : Int32) fv fdd) (f11 : Exa Z h0 ky "java/lang/String") (f12 : Fld Z h0 ky "java/lang/String" "coder" "B" (.int (0 : Int32))) (f13 : Fld Z h0 ky "java/lang/String" "value" "[B" (.ref kb)) (f14 : Fld Z h0 ky "java/lang/String" "hash" "I" (.int hv)) (f15 : Fld Z h0 ky "java/lang/String" "hashIsZero" "Z" (.int hz)) (f16 : Arv Z h0 kb kkb .byte (2 : Int32) [(.int b0), (.int b1)] (.int (0 : Int32))) (f17 : Exa Z h0 kb "[B") (f18 : Exa Z h0 mp "java/util/LinkedHashMap") (f19 : Fld Z h0 mp "java/util/HashMap" "table" "[Ljava/util/HashMap$Node;" .null) (f20 : Fld Z h0 mp "java/util/HashMap" "size" "I" (.int (0 : Int32))) (f21 : Fld Z h0 mp "java/util/HashMap" "modCount" "I" (.int (0 : Int32))) (f22 : Fld Z h0 mp "java/util/HashMap" "threshold" "I" (.int (0 : Int32))) (f23 : Fld Z h0 mp "java/util/LinkedHashMap" "putMode" "I" (.int (0 : Int32))) (f24 : Fld Z h0 mp "java/util/LinkedHashMap" "head" "Ljava/util/LinkedHashMap$Entry;" .null) (f25 : Fld Z h0 mp "java/util/LinkedHashMap" "tail" "Ljava/util/LinkedHashMap$Entry;" .null) (f26 : Lam h0 fo cK (.ref th) (.ref fd)) (hmd : LamKit.Made Z "com/example/mandoline/mandoline/Variable" own_sg cK) (gm : n0 ≤ mp) (gk : n0 ≤ ky) (nfk : fo ≠ ky) (nfm : fo ≠ mp) (qs1 : fs ≠ ky) (Old0 : OldL Z n0 h0) :
    MetW l Z y_55 c53 13 (some (.object "java/lang/Object")) ws (Rm 7 4 40 94) #[(.ref mp), (.ref ky), (.ref fo)] h0 (fun vm => IB Z vm ([""] : List String)) (Q_rm_ci_e Z G1 G6 th nm fd fs fb kfb fv fdd ky kb kkb b0 b1 hv hz mp fo cK h0 n0) := by
 refine MetFree.of_bodySF (plainFor_of_name pn_java_util_HashMap) hisR ?_
 intro p e s m args below meth c s₁ Bd hml0 hP hK
 obtain ⟨rfl, hZ, hh, hI⟩ := hP
 have hx := Bd.exec
 have hby := Bd.bytes
 have hml : c.maxLocals = 13 := hml0
 have hown : s.vm.findClass "java/util/HashMap" = some m.cls := findClass_of_methodNamed Bd.named
 have X0 : Stand p l e (Rm 7 4 40 94) (s.setVm s.vm) m #[(.ref mp), (.ref ky), (.ref fo)] below meth c s₁ [] 0 0 := Stand.of_body Bd
 have e0 : s₁.heap = h0 := by rw [← hh, Bd.state]; rfl
 have N0 := Fr.nil n0
 have K00 : Keep h0 h0 [mp, ky] := Keep.refl _ _
 have hS0 : s.Since s.vm s.heap.size := (State.WarmedH.refl s).since _
 have hk0 : s.heap.size ≤ h0.size := by rw [hh]; exact Nat.le_refl _
 have hkeep : ∀ (b : Addr) (cl : Cell), Z.heap[b]? = some cl → s.heap[b]? = some cl := by rw [hh]; exact Old0.2.2
 show Rch p e below s₁ (entryFrame m #[(.ref mp), (.ref ky), (.ref fo)] 13) (FinW s (Q_rm_ci_e Z G1 G6 th nm fd fs fb kfb fv fdd ky kb kkb b0 b1 hv hz mp fo cK h0 n0) 4 40)
 refine Rch.cast (ef_rm_ci_e m G1 G6 th nm fd fs fb kfb fv fdd ky kb kkb b0 b1 hv hz mp fo cK) ?_
 show Rch p e below s₁ (mkF m 0 #[vR mp, vR ky, vR fo, U, U, U, U, U, U, U, U, U, U] []) _
 refine w_aloadN (pc' := 1) X0 hx hby d53_0 rfl rfl rfl ?_
 refine w_nonnullYes (pc' := 12) X0 hx hby d53_1 rfl (fun q => nomatch q) (by decide) ?_
 refine w_aloadN (pc' := 13) X0 hx hby d53_12 rfl rfl rfl ?_
 obtain ⟨_, _, ⟨T870, L870, k870, n870⟩, -, X870, ⟨Lc870, hQ870, l870, y870, z870⟩, st870⟩ := Jvm.LawKit.callS X0 hx (y := y_46) hown (mvT hZ (wi hw 146 rfl)) (mvT hZ (wi hw 147 rfl)) (mvT hZ (wi hw 54 rfl)) (mvT hZ (wi hw 148 rfl)) (by decide) (backOf (W := 0) (rm_hash l Z a0 hw [] G1 ky kb kkb b0 b1 hv hz h0 n0 Z0 (O2) (P5) f11 f12 f13 f14 f15 f16 f17 (gk) Old0) hZ (wi hw 148 rfl) (wi hw 54 rfl) (by decide) (by decide)) (g := (mkF m 13 #[vR mp, vR ky, vR fo, U, U, U, U, U, U, U, U, U, U] [(.ref ky)])) rfl (by rw [hml]; rfl) (argsL := [(.ref ky)]) (rest := []) (lenOf pd__Ljava_lang_Object__I rfl) rfl (by show 2 * 0 + _ ≤ _; exact Nat.le_of_eq rfl) (hb hby d53_13) (fun _ _ => ⟨rfl, e0, (by decide : 0 + 0 ≤ _), (by decide : 0 + 0 ≤ _)⟩)
 dsimp only [Pt.U, Pt.locs, Pt.cells, Pt.slots] at X870 l870 y870 z870 st870 hQ870
 subst l870 y870 z870
 obtain ⟨r_870, x2_870, y2_870, rfl, NQ870, K870, pq870_0, pq870_1, fq870_0, fq870_1, fq870_2, fq870_3⟩ := hQ870
 have N871 := Fr.app N0 NQ870
 have f872 := f3.keep K870
 have ne873 : th ≠ ky := ne_exa f3 f11 (by decide)
 have f874 := f4.keep K870 (ninS ne873 nin0)
 have f875 := f5.keep K870
 have ne876 : fd ≠ ky := ne_exa f5 f11 (by decide)
 have f877 := f6.keep K870 (ninS ne876 nin0)
 have f878 := f7.keep K870
 have f879 := f8.keep K870 (ninS qs1 nin0)
 have f880 := f9.keep K870 (ninS qs1 nin0)
 have ne881 : fb ≠ ky := Ne.symm (Exa.neArv f11 f10 (wi hw 6 rfl))
 have f882 := f10.keep K870 (ninS ne881 nin0)
 have f883 := f11.keep K870
 have f887 := f18.keep K870
 have ne888 : mp ≠ ky := ne_exa f18 f11 (by decide)
 have f889 := f19.keep K870 (ninS ne888 nin0)
 have f890 := f20.keep K870 (ninS ne888 nin0)
 have f891 := f21.keep K870 (ninS ne888 nin0)
 have f892 := f22.keep K870 (ninS ne888 nin0)
 have f893 := f23.keep K870 (ninS ne888 nin0)
 have f894 := f24.keep K870 (ninS ne888 nin0)
 have f895 := f25.keep K870 (ninS ne888 nin0)
 have f896 := f26.keep K870 (ninS nfk nin0)
 have Old897 := Old0.keep K870 (allS gk all0)
 have Kp898 : Keep h0 T870.heap [mp, ky] := K00.trans K870 (allS (Or.inl (List.mem_of_getElem? (i := 1) rfl)) all0)
 have Z899 := Nat.le_trans Z0 K870.1
 have hk900 := Nat.le_trans hk0 K870.1
 refine Rch.st (fun _ k => st870 _ k) ?_
 show Rch p e below T870 (mkF m 16 #[vR mp, vR ky, vR fo, U, U, U, U, U, U, U, U, U, U] [(.int r_870)]) _
 refine w_istoreN (pc' := 17) (l' := #[vR mp, vR ky, vR fo, vI r_870, U, U, U, U, U, U, U, U, U]) X870 hx hby d53_16 rfl rfl ?_
 refine w_iconst (pc' := 18) (v := 0) X870 hx hby d53_17 rfl rfl ?_
 refine w_istore (pc' := 20) (l' := #[vR mp, vR ky, vR fo, vI r_870, U, U, U, U, vI 0, U, U, U, U]) X870 hx hby d53_18 rfl rfl ?_
 refine w_aconstNull (pc' := 21) X870 hx hby d53_20 rfl ?_
 refine w_astore (pc' := 23) (l' := #[vR mp, vR ky, vR fo, vI r_870, U, U, U, U, vI 0, vN, U, U, U]) X870 hx hby d53_21 rfl rfl rfl ?_
 refine w_aconstNull (pc' := 24) X870 hx hby d53_23 rfl ?_
 refine w_astore (pc' := 26) (l' := #[vR mp, vR ky, vR fo, vI r_870, U, U, U, U, vI 0, vN, vN, U, U]) X870 hx hby d53_24 rfl rfl rfl ?_
 refine w_aloadN (pc' := 27) X870 hx hby d53_26 rfl rfl rfl ?_
 obtain ⟨T901, X901, e901, st901⟩ := getF X870 hx hZ hown (host := "") (Or.inl (wi hw 177 rfl)) Via.refl (rfl : T870.heap = T870.heap) f890 (g := (mkF m 27 #[vR mp, vR ky, vR fo, vI r_870, U, U, U, U, vI 0, vN, vN, U, U] [(.ref mp)])) rfl rfl (hb hby d53_27)
 refine Rch.st (fun _ k => st901 _ k) ?_
 show Rch p e below T901 (mkF m 30 #[vR mp, vR ky, vR fo, vI r_870, U, U, U, U, vI 0, vN, vN, U, U] [(.int 0)]) _
 refine w_aloadN (pc' := 31) X901 hx hby d53_30 rfl rfl rfl ?_
 obtain ⟨T902, X902, e902, st902⟩ := getF X901 hx hZ hown (host := "") (Or.inl (wi hw 179 rfl)) Via.refl e901 f892 (g := (mkF m 31 #[vR mp, vR ky, vR fo, vI r_870, U, U, U, U, vI 0, vN, vN, U, U] [(.ref mp), (.int 0)])) rfl rfl (hb hby d53_31)
 refine Rch.st (fun _ k => st902 _ k) ?_
 show Rch p e below T902 (mkF m 34 #[vR mp, vR ky, vR fo, vI r_870, U, U, U, U, vI 0, vN, vN, U, U] [(.int 0), (.int 0)]) _
 refine w_icmpNo (pc' := 37) X902 hx hby d53_34 (XT.ii_gt_f (by decide)) rfl ?_
 refine w_aloadN (pc' := 38) X902 hx hby d53_37 rfl rfl rfl ?_
 obtain ⟨T903, X903, e903, st903⟩ := getF X902 hx hZ hown (host := "") (Or.inl (wi hw 181 rfl)) Via.refl e902 f889 (g := (mkF m 38 #[vR mp, vR ky, vR fo, vI r_870, U, U, U, U, vI 0, vN, vN, U, U] [(.ref mp)])) rfl rfl (hb hby d53_38)
 refine Rch.st (fun _ k => st903 _ k) ?_
 show Rch p e below T903 (mkF m 41 #[vR mp, vR ky, vR fo, vI r_870, U, U, U, U, vI 0, vN, vN, U, U] [.null]) _
 refine w_dup (pc' := 42) X903 hx hby d53_41 rfl rfl ?_
 refine w_astore (pc' := 44) (l' := #[vR mp, vR ky, vR fo, vI r_870, vN, U, U, U, vI 0, vN, vN, U, U]) X903 hx hby d53_42 rfl rfl rfl ?_
 refine w_nullYes (pc' := 56) X903 hx hby d53_44 (rfl) (by decide) ?_
 refine w_aloadN (pc' := 57) X903 hx hby d53_56 rfl rfl rfl ?_
 obtain ⟨cq904, kq904, q904a, q904b, q904c⟩ := isOf hZ e903 f887
 obtain ⟨_, _, ⟨T904, L904, k904, n904⟩, -, X904, ⟨Lc904, hQ904, l904, y904, z904⟩, st904⟩ := X903.virtualBack hx (y := y_48) (z := y_48) hown (mvT hZ (wi hw 183 rfl)) (mvT hZ (wi hw 184 rfl)) (notFace_of_selects (args := #[]) (mvT hZ (wi hw 186 rfl))) (mvT hZ (wi hw 186 rfl)) (mvT hZ (wi hw 185 rfl)) (by decide) (backOf (W := 0) (rm_rs l Z a0 hw [] mp T870.heap n0 Z899 f887 f889 f890 f891 f892 f893 f894 f895 (gm)) hZ (wi hw 187 rfl) (wi hw 54 rfl) (by decide) (by decide)) q904a q904c (g := (mkF m 57 #[vR mp, vR ky, vR fo, vI r_870, vN, U, U, U, vI 0, vN, vN, U, U] [(.ref mp)])) rfl (by rw [hml]; rfl) (Steps.refl _) (argsL := []) (rest := []) (lenOf pd____Ljava_util_HashMap_Node_ rfl) rfl (by show 2 * 0 + _ ≤ _; exact Nat.le_of_eq rfl) (hb hby d53_57) (fun _ _ => ⟨rfl, e903, (by decide : 0 + 1 ≤ _), (by decide : 0 + 16 ≤ _)⟩)
 dsimp only [Pt.U, Pt.locs, Pt.cells, Pt.slots] at X904 l904 y904 z904 st904 hQ904
 subst l904 y904 z904
 obtain ⟨t_904, kt_904, rfl, NQ904, K904, pq904_0, pq904_1, fq904_0, fq904_1, fq904_2, fq904_3, fq904_4, fq904_5, fq904_6, fq904_7⟩ := hQ904
 have N905 := Fr.app N871 NQ904
 have ne911 := nlt f883.lt pq904_0
 have ne912 := nlt f887.lt pq904_0
 have ge914 : n0 ≤ t_904 := Nat.le_trans Z899 pq904_0
 have f915 := f872.keep K904
 have ne916 : th ≠ mp := ne_exa f872 f887 (by decide)
 have f917 := f874.keep K904 (ninS ne916 nin0)
 have f918 := f875.keep K904
 have ne919 : fd ≠ mp := ne_exa f875 f887 (by decide)
 have f920 := f877.keep K904 (ninS ne919 nin0)
 have f921 := f878.keep K904
 have ne922 : fs ≠ mp := ne_exa f878 f887 (by decide)
 have f923 := f879.keep K904 (ninS ne922 nin0)
 have f924 := f880.keep K904 (ninS ne922 nin0)
 have ne925 : fb ≠ mp := Ne.symm (Exa.neArv f887 f882 (wi hw 45 rfl))
 have f926 := f882.keep K904 (ninS ne925 nin0)
 have f927 := f883.keep K904
 have f931 := f887.keep K904
 have f932 := f896.keep K904 (ninS nfm nin0)
 have f933 := fq870_0.keep K904 (ninS (Ne.symm ne888) nin0)
 have f934 := fq870_1.keep K904 (ninS (Ne.symm ne888) nin0)
 have f935 := fq870_2.keep K904 (ninS (Ne.symm ne888) nin0)
 have f936 := fq870_3.keep K904 (ninS (Ne.symm ne888) nin0)
 have Old937 := Old897.keep K904 (allS gm all0)
 have Kp938 : Keep h0 T904.heap [mp, ky] := Kp898.trans K904 (allS (Or.inl (List.mem_of_getElem? (i := 0) rfl)) all0)
 have Z939 := Nat.le_trans Z899 K904.1
 have hk940 := Nat.le_trans hk900 K904.1
 refine Rch.st (fun _ k => st904.trans k) ?_
 show Rch p e below T904 (mkF m 60 #[vR mp, vR ky, vR fo, vI r_870, vN, U, U, U, vI 0, vN, vN, U, U] [(.ref t_904)]) _
 refine w_dup (pc' := 61) X904 hx hby d53_60 rfl rfl ?_
 refine w_astore (pc' := 63) (l' := #[vR mp, vR ky, vR fo, vI r_870, vR t_904, U, U, U, vI 0, vN, vN, U, U]) X904 hx hby d53_61 rfl rfl rfl ?_
 refine Rch.st (fun _ k => own_alen X904 hx hZ (rfl : T904.heap = T904.heap) fq904_7 rfl rfl (hb hby d53_63) k) ?_
 show Rch p e below T904 (mkF m 64 #[vR mp, vR ky, vR fo, vI r_870, vR t_904, U, U, U, vI 0, vN, vN, U, U] [(.int 16)]) _
 refine w_istore (pc' := 66) (l' := #[vR mp, vR ky, vR fo, vI r_870, vR t_904, U, vI 16, U, vI 0, vN, vN, U, U]) X904 hx hby d53_64 rfl rfl ?_
 refine w_aload (pc' := 68) X904 hx hby d53_66 rfl rfl rfl ?_
 refine w_iload (pc' := 70) X904 hx hby d53_68 rfl rfl ?_
 refine w_iconst (pc' := 71) (v := 1) X904 hx hby d53_70 rfl rfl ?_
 refine w_isub (pc' := 72) X904 hx hby d53_71 rfl ?_
 refine w_iloadN (pc' := 73) X904 hx hby d53_72 rfl rfl ?_
 refine w_iand (pc' := 74) X904 hx hby d53_73 rfl ?_
 refine w_dup (pc' := 75) X904 hx hby d53_74 rfl rfl ?_
 refine w_istore (pc' := 77) (l' := #[vR mp, vR ky, vR fo, vI r_870, vR t_904, U, vI 16, vI (((16 : Int32) - (1 : Int32)) &&& r_870), vI 0, vN, vN, U, U]) X904 hx hby d53_75 rfl rfl ?_
 refine Rch.st (fun _ k => own_ldA X904 hx hZ (rfl : T904.heap = T904.heap) fq904_7 (j := (((16 : Int32) - (1 : Int32)) &&& r_870)) (own_idx _) (v := .null) (by simp) rfl rfl (hb hby d53_77) k) ?_
 show Rch p e below T904 (mkF m 78 #[vR mp, vR ky, vR fo, vI r_870, vR t_904, U, vI 16, vI (((16 : Int32) - (1 : Int32)) &&& r_870), vI 0, vN, vN, U, U] [.null]) _
 refine w_dup (pc' := 79) X904 hx hby d53_78 rfl rfl ?_
 refine w_astore (pc' := 81) (l' := #[vR mp, vR ky, vR fo, vI r_870, vR t_904, vN, vI 16, vI (((16 : Int32) - (1 : Int32)) &&& r_870), vI 0, vN, vN, U, U]) X904 hx hby d53_79 rfl rfl rfl ?_
 refine w_nullYes (pc' := 194) X904 hx hby d53_81 (rfl) (by decide) ?_
 refine w_aloadN (pc' := 195) X904 hx hby d53_194 rfl rfl rfl ?_
 obtain ⟨T941, X941, e941, st941⟩ := getF X904 hx hZ hown (host := "") (Or.inl (wi hw 190 rfl)) Via.refl (rfl : T904.heap = T904.heap) fq904_2 (g := (mkF m 195 #[vR mp, vR ky, vR fo, vI r_870, vR t_904, vN, vI 16, vI (((16 : Int32) - (1 : Int32)) &&& r_870), vI 0, vN, vN, U, U] [(.ref mp)])) rfl rfl (hb hby d53_195)
 refine Rch.st (fun _ k => st941 _ k) ?_
 show Rch p e below T941 (mkF m 198 #[vR mp, vR ky, vR fo, vI r_870, vR t_904, vN, vI 16, vI (((16 : Int32) - (1 : Int32)) &&& r_870), vI 0, vN, vN, U, U] [(.int 0)]) _
 refine w_istore (pc' := 200) (l' := #[vR mp, vR ky, vR fo, vI r_870, vR t_904, vN, vI 16, vI (((16 : Int32) - (1 : Int32)) &&& r_870), vI 0, vN, vN, vI 0, U]) X941 hx hby d53_198 rfl rfl ?_
 refine w_aloadN (pc' := 201) X941 hx hby d53_200 rfl rfl rfl ?_
 refine w_aloadN (pc' := 202) X941 hx hby d53_201 rfl rfl rfl ?_
 obtain ⟨_, _, ⟨T942, L942, k942, n942⟩, -, X942, hSx942, hgx942, ⟨Lc942, hQ942, l942, y942, z942⟩, st942⟩ := own_apply X941 hx hZ hown (xi := y_0) (y := y_1) (wi hw 192 rfl) (wi hw 193 rfl) (mvT hZ (wi hw 194 rfl)) hmd own_hok own_hc0 own_hc1 own_hcl (wi hw 136 rfl) (wi hw 35 rfl) (wi hw 195 rfl) (wi hw 196 rfl) (wi hw 197 rfl) (wi hw 36 rfl) own_hxi own_hy (by decide) (by decide) e941 f932 f915 f927 (PV := fun vm => IB Z vm ([""] : List String)) (rm_lam_e l Z a0 hw [] G6 th nm fd fs fb kfb fv fdd ky T904.heap n0 Z939 (O6) f915 f917 f918 f920 f921 f923 f924 f926 Old937) (fun vm hW => own_ib (s := s.setVm s.vm) hI hW) (fun _ _ _ _ q => by obtain ⟨_, _, ee, -⟩ := q; exact ⟨_, ee, rfl⟩) (lenOf pd__Lcom_example_mandoline_mandoline_Place_Field_Ljava_lang_String__Lcom_example_mandoline_mandoline_Variable_ rfl) (lenOf pd__Ljava_lang_Object__Ljava_lang_Object_ rfl) (g := (mkF m 202 #[vR mp, vR ky, vR fo, vI r_870, vR t_904, vN, vI 16, vI (((16 : Int32) - (1 : Int32)) &&& r_870), vI 0, vN, vN, vI 0, U] [(.ref ky), (.ref fo)])) rfl (by rw [hml]; rfl) (rest := []) rfl (hb hby d53_202) (by decide) (by show 2 * 0 + 0 + (2 + 11) + _ ≤ _; decide) (by decide : 1 + 2 ≤ _) (by decide : 16 + 18 ≤ _)
 dsimp only [Pt.U, Pt.locs, Pt.cells, Pt.slots] at X942 l942 y942 z942 st942 hQ942 hSx942 hgx942
 subst l942 y942 z942
 have hS942 := foldS hS0 (by rw [e941]; exact hk940) hSx942 hgx942
 have hk942 : T942.heap.size ≤ T942.heap.size := Nat.le_refl _
 have hZ942 : Z.Warmed39 (s.setVm T942.vm).vm := State.Warmed39.trans (t := s.setVm s.vm) hZ hSx942.1
 have hown942 : (s.setVm T942.vm).vm.findClass "java/util/HashMap" = some m.cls := by rw [show (s.setVm T942.vm).vm = T942.vm from rfl, hSx942.1.alike.findClass]; exact hown
 have X942w : Stand p l e (Rm 7 4 40 94) (s.setVm T942.vm) m _ below meth c T942 _ _ _ := X942
 obtain ⟨nv_942, m2_942, rfl, NQ942, K942, pq942_0, pq942_1, fq942_0, fq942_1, fq942_2, fq942_3, fq942_4, fq942_5, fq942_6, fq942_7, fq942_8, fq942_9, fq942_10, fq942_11, IQ942⟩ := hQ942
 have N943 := Fr.app N905 NQ942
 have ne950 := nlt f931.lt pq942_0
 have ne951 := nlt fq904_7.lt pq942_0
 have ne960 := nlt f931.lt pq942_1
 have ne961 := nlt fq904_7.lt pq942_1
 have f975 := f931.keep K942
 have f977 := f933.keep K942 nin0
 have f978 := f934.keep K942 nin0
 have f979 := f935.keep K942 nin0
 have f980 := f936.keep K942 nin0
 have f981 := fq904_0.keep K942 nin0
 have f982 := fq904_1.keep K942 nin0
 have f983 := fq904_2.keep K942 nin0
 have f984 := fq904_3.keep K942 nin0
 have f985 := fq904_4.keep K942 nin0
 have f986 := fq904_5.keep K942 nin0
 have f987 := fq904_6.keep K942 nin0
 have f988 := fq904_7.keep K942 nin0
 have Kp990 : Keep h0 T942.heap [mp, ky] := Kp938.trans K942 all0
 have Z991 := Nat.le_trans Z939 K942.1
 refine Rch.st (fun _ k => st942.trans k) ?_
 show Rch p e below T942 (mkF m 207 #[vR mp, vR ky, vR fo, vI r_870, vR t_904, vN, vI 16, vI (((16 : Int32) - (1 : Int32)) &&& r_870), vI 0, vN, vN, vI 0, U] [(.ref nv_942)]) _
 refine w_astore (pc' := 209) (l' := #[vR mp, vR ky, vR fo, vI r_870, vR t_904, vN, vI 16, vI (((16 : Int32) - (1 : Int32)) &&& r_870), vI 0, vN, vN, vI 0, vR nv_942]) X942w hx hby d53_207 rfl rfl rfl ?_
 refine w_iload (pc' := 211) X942w hx hby d53_209 rfl rfl ?_
 refine w_aloadN (pc' := 212) X942w hx hby d53_211 rfl rfl rfl ?_
 obtain ⟨T992, X992, e992, st992⟩ := getF X942w hx hZ942 hown942 (host := "") (Or.inl (wi hw 190 rfl)) Via.refl (rfl : T942.heap = T942.heap) f983 (g := (mkF m 212 #[vR mp, vR ky, vR fo, vI r_870, vR t_904, vN, vI 16, vI (((16 : Int32) - (1 : Int32)) &&& r_870), vI 0, vN, vN, vI 0, vR nv_942] [(.ref mp), (.int 0)])) rfl rfl (hb hby d53_212)
 refine Rch.st (fun _ k => st992 _ k) ?_
 show Rch p e below T992 (mkF m 215 #[vR mp, vR ky, vR fo, vI r_870, vR t_904, vN, vI 16, vI (((16 : Int32) - (1 : Int32)) &&& r_870), vI 0, vN, vN, vI 0, vR nv_942] [(.int 0), (.int 0)]) _
 refine w_icmpYes (pc' := 226) X992 hx hby d53_215 (XT.ii_eq_t (rfl)) (by decide) ?_
 refine w_aload (pc' := 228) X992 hx hby d53_226 rfl rfl rfl ?_
 refine w_nonnullYes (pc' := 233) X992 hx hby d53_228 rfl (fun q => nomatch q) (by decide) ?_
 refine w_aload (pc' := 235) X992 hx hby d53_233 rfl rfl rfl ?_
 refine w_nullYes (pc' := 254) X992 hx hby d53_235 (rfl) (by decide) ?_
 refine w_aload (pc' := 256) X992 hx hby d53_254 rfl rfl rfl ?_
 refine w_nullYes (pc' := 275) X992 hx hby d53_256 (rfl) (by decide) ?_
 refine w_aload (pc' := 277) X992 hx hby d53_275 rfl rfl rfl ?_
 refine w_iload (pc' := 279) X992 hx hby d53_277 rfl rfl ?_
 refine w_aloadN (pc' := 280) X992 hx hby d53_279 rfl rfl rfl ?_
 refine w_iloadN (pc' := 281) X992 hx hby d53_280 rfl rfl ?_
 refine w_aloadN (pc' := 282) X992 hx hby d53_281 rfl rfl rfl ?_
 refine w_aload (pc' := 284) X992 hx hby d53_282 rfl rfl rfl ?_
 refine w_aload (pc' := 286) X992 hx hby d53_284 rfl rfl rfl ?_
 obtain ⟨cq993, kq993, q993a, q993b, q993c⟩ := isOf hZ942 e992 f975
 obtain ⟨_, _, ⟨T993, L993, k993, n993⟩, -, X993, ⟨Lc993, hQ993, l993, y993, z993⟩, st993⟩ := X992.virtualBack hx (y := y_56) (z := y_52) hown942 (mvT hZ942 (wi hw 209 rfl)) (mvT hZ942 (wi hw 210 rfl)) (own_nf (args := #[]) (mvT hZ942 (wi hw 140 rfl)) rfl) (mvT hZ942 (wi hw 212 rfl)) (mvT hZ942 (wi hw 213 rfl)) (by decide) (backOf (W := 2) (rm_nn l Z a0 hw [] mp t_904 r_870 ky nv_942 T942.heap n0 Z991 f975 f981 f982 f983 f984 f985 f986 f987 (gm)) hZ942 (wi hw 214 rfl) (wi hw 46 rfl) (by decide) (by decide)) q993a q993c (g := (mkF m 286 #[vR mp, vR ky, vR fo, vI r_870, vR t_904, vN, vI 16, vI (((16 : Int32) - (1 : Int32)) &&& r_870), vI 0, vN, vN, vI 0, vR nv_942] [.null, (.ref nv_942), (.ref ky), (.int r_870), (.ref mp), (.int (((16 : Int32) - (1 : Int32)) &&& r_870)), (.ref t_904)])) rfl (by rw [hml]; rfl) (Steps.refl _) (argsL := [(.int r_870), (.ref ky), (.ref nv_942), .null]) (rest := [(.int (((16 : Int32) - (1 : Int32)) &&& r_870)), (.ref t_904)]) (lenOf pd__ILjava_lang_Object_Ljava_lang_Object_Ljava_util_HashMap_Node__Ljava_util_HashMap_Node_ rfl) rfl (by show 2 * 0 + _ ≤ _; exact Nat.le_of_eq rfl) (hb hby d53_286) (fun _ _ => ⟨rfl, e992, (by decide : 3 + 1 ≤ _), (by decide : 34 + 6 ≤ _)⟩)
 dsimp only [Pt.U, Pt.locs, Pt.cells, Pt.slots] at X993 l993 y993 z993 st993 hQ993
 subst l993 y993 z993
 obtain ⟨en_993, rfl, NQ993, K993, pq993_0, fq993_0, fq993_1, fq993_2, fq993_3, fq993_4, fq993_5, fq993_6, fq993_7⟩ := hQ993
 have N994 := Fr.app N943 NQ993
 have f1018 := f975.keep K993
 have f1020 := f977.keep K993 (ninS (Ne.symm ne888) nin0)
 have f1021 := f978.keep K993 (ninS (Ne.symm ne888) nin0)
 have f1022 := f979.keep K993 (ninS (Ne.symm ne888) nin0)
 have f1023 := f980.keep K993 (ninS (Ne.symm ne888) nin0)
 have f1024 := f988.keep K993 (ninS (Ne.symm ne912) nin0)
 have f1025 := fq942_0.keep K993
 have f1026 := fq942_1.keep K993 (ninS (Ne.symm ne950) nin0)
 have f1027 := fq942_2.keep K993 (ninS (Ne.symm ne950) nin0)
 have f1028 := fq942_3.keep K993 (ninS (Ne.symm ne950) nin0)
 have f1029 := fq942_4.keep K993
 have f1030 := fq942_5.keep K993 (ninS (Ne.symm ne960) nin0)
 have f1031 := fq942_6.keep K993 (ninS (Ne.symm ne960) nin0)
 have f1032 := fq942_7.keep K993 (ninS (Ne.symm ne960) nin0)
 have f1033 := fq942_8.keep K993 (ninS (Ne.symm ne960) nin0)
 have f1034 := fq942_9.keep K993 (ninS (Ne.symm ne960) nin0)
 have f1035 := fq942_10.keep K993 (ninS (Ne.symm ne960) nin0)
 have f1036 := fq942_11.keep K993 (ninS (Ne.symm ne960) nin0)
 have Kp1038 : Keep h0 T993.heap [mp, ky] := Kp990.trans K993 (allS (Or.inl (List.mem_of_getElem? (i := 0) rfl)) all0)
 have Z1039 := Nat.le_trans Z991 K993.1
 have hk1040 := Nat.le_trans hk942 K993.1
 refine Rch.st (fun _ k => st993.trans k) ?_
 show Rch p e below T993 (mkF m 289 #[vR mp, vR ky, vR fo, vI r_870, vR t_904, vN, vI 16, vI (((16 : Int32) - (1 : Int32)) &&& r_870), vI 0, vN, vN, vI 0, vR nv_942] [(.ref en_993), (.int (((16 : Int32) - (1 : Int32)) &&& r_870)), (.ref t_904)]) _
 obtain ⟨T1041, h1041, X1041, e1041, W1041, st1041⟩ := own_stA X993 hx hZ942 (rfl : T993.heap = T993.heap) f1024 (pq904_1) (Ins.of_exa fq993_0 (wi hw 225 rfl)) (j := (((16 : Int32) - (1 : Int32)) &&& r_870)) (own_idx _) (g := (mkF m 289 #[vR mp, vR ky, vR fo, vI r_870, vR t_904, vN, vI 16, vI (((16 : Int32) - (1 : Int32)) &&& r_870), vI 0, vN, vN, vI 0, vR nv_942] [(.ref en_993), (.int (((16 : Int32) - (1 : Int32)) &&& r_870)), (.ref t_904)])) rfl rfl (hb hby d53_289)
 have N1042 := Fr.snoc X1041 N994 ge914
 have f1054 := f1018.wr W1041
 have f1056 := f1020.other W1041 (Or.inl ne911)
 have f1057 := f1021.other W1041 (Or.inl ne911)
 have f1058 := f1022.other W1041 (Or.inl ne911)
 have f1059 := f1023.other W1041 (Or.inl ne911)
 have f1060 := f1025.wr W1041
 have f1061 := f1026.other W1041 (Or.inl (Ne.symm ne951))
 have f1062 := f1027.other W1041 (Or.inl (Ne.symm ne951))
 have f1063 := f1028.other W1041 (Or.inl (Ne.symm ne951))
 have f1064 := f1029.wr W1041
 have f1065 := f1030.other W1041 (Or.inl (Ne.symm ne961))
 have f1066 := f1031.other W1041 (Or.inl (Ne.symm ne961))
 have f1067 := f1032.other W1041 (Or.inl (Ne.symm ne961))
 have f1068 := f1033.other W1041 (Or.inl (Ne.symm ne961))
 have f1069 := f1034.other W1041 (Or.inl (Ne.symm ne961))
 have f1070 := f1035.other W1041 (Or.inl (Ne.symm ne961))
 have f1071 := f1036.other W1041 (Or.inl (Ne.symm ne961))
 have f1074 := fq993_2.other W1041 (Or.inl ne912)
 have f1075 := fq993_3.other W1041 (Or.inl ne912)
 have f1078 := fq993_6.other W1041 (Or.inl ne912)
 have Z1081 := Nat.le_trans Z1039 (Keep.of_wr W1041).1
 have hk1082 := Nat.le_trans hk1040 (Keep.of_wr W1041).1
 have Kp1083 : Keep h0 h1041 [mp, ky] := Kp1038.wr W1041 (Or.inr (Nat.le_trans Kp898.1 pq904_0))
 refine Rch.st (fun _ k => st1041 _ k) ?_
 show Rch p e below T1041 (mkF m 290 #[vR mp, vR ky, vR fo, vI r_870, vR t_904, vN, vI 16, vI (((16 : Int32) - (1 : Int32)) &&& r_870), vI 0, vN, vN, vI 0, vR nv_942] []) _
 refine w_iload (pc' := 292) X1041 hx hby d53_290 rfl rfl ?_
 refine w_bipush (pc' := 294) (v := 7) X1041 hx hby d53_292 rfl rfl ?_
 refine w_icmpYes (pc' := 304) X1041 hx hby d53_294 (XT.ii_lt_t (by decide)) (by decide) ?_
 refine w_aloadN (pc' := 305) X1041 hx hby d53_304 rfl rfl rfl ?_
 refine w_iload (pc' := 307) X1041 hx hby d53_305 rfl rfl ?_
 refine w_iconst (pc' := 308) (v := 1) X1041 hx hby d53_307 rfl rfl ?_
 refine w_iadd (pc' := 309) X1041 hx hby d53_308 rfl ?_
 obtain ⟨T1084, h1084, X1084, e1084, W1084, st1084⟩ := putF X1041 hx hZ942 hown942 (host := "") (Or.inl (wi hw 190 rfl)) Via.refl e1041 f1075 f1054 (Or.inl (wi hw 191 rfl)) (wi hw 45 rfl) (ty := .int) (by decide) rfl rfl (g := (mkF m 309 #[vR mp, vR ky, vR fo, vI r_870, vR t_904, vN, vI 16, vI (((16 : Int32) - (1 : Int32)) &&& r_870), vI 0, vN, vN, vI 0, vR nv_942] [(.int ((0 : Int32) + (1 : Int32))), (.ref mp)])) rfl rfl (hb hby d53_309)
 have N1085 := Fr.snoc X1084 N1042 gm
 have f1097 := f1054.wr W1084
 have f1099 := f1056.other W1084 (Or.inl (Ne.symm ne888))
 have f1100 := f1057.other W1084 (Or.inl (Ne.symm ne888))
 have f1101 := f1058.other W1084 (Or.inl (Ne.symm ne888))
 have f1102 := f1059.other W1084 (Or.inl (Ne.symm ne888))
 have f1103 := f1060.wr W1084
 have f1104 := f1061.other W1084 (Or.inl (Ne.symm ne950))
 have f1105 := f1062.other W1084 (Or.inl (Ne.symm ne950))
 have f1106 := f1063.other W1084 (Or.inl (Ne.symm ne950))
 have f1107 := f1064.wr W1084
 have f1108 := f1065.other W1084 (Or.inl (Ne.symm ne960))
 have f1109 := f1066.other W1084 (Or.inl (Ne.symm ne960))
 have f1110 := f1067.other W1084 (Or.inl (Ne.symm ne960))
 have f1111 := f1068.other W1084 (Or.inl (Ne.symm ne960))
 have f1112 := f1069.other W1084 (Or.inl (Ne.symm ne960))
 have f1113 := f1070.other W1084 (Or.inl (Ne.symm ne960))
 have f1114 := f1071.other W1084 (Or.inl (Ne.symm ne960))
 have f1117 := f1074.other W1084 (Or.inr (slot_ne (t := .int) (t' := .int) (Or.inl (wi hw 178 rfl)) (Or.inl (wi hw 191 rfl)) (by decide) (by decide) (by decide)))
 have f1121 := f1078.other W1084 (Or.inr (slot_ne (t := (.object "java/util/LinkedHashMap$Entry")) (t' := .int) (Or.inl (wi hw 245 rfl)) (Or.inl (wi hw 191 rfl)) (by decide) (by decide) (by decide)))
 have Z1124 := Nat.le_trans Z1081 (Keep.of_wr W1084).1
 have hk1125 := Nat.le_trans hk1082 (Keep.of_wr W1084).1
 have Kp1126 : Keep h0 h1084 [mp, ky] := Kp1083.wr W1084 (Or.inl (List.mem_of_getElem? (i := 0) rfl))
 refine Rch.st (fun _ k => st1084 _ k) ?_
 show Rch p e below T1084 (mkF m 312 #[vR mp, vR ky, vR fo, vI r_870, vR t_904, vN, vI 16, vI (((16 : Int32) - (1 : Int32)) &&& r_870), vI 0, vN, vN, vI 0, vR nv_942] []) _
 refine w_aloadN (pc' := 313) X1084 hx hby d53_312 rfl rfl rfl ?_
 refine w_dup (pc' := 314) X1084 hx hby d53_313 rfl rfl ?_
 obtain ⟨T1127, X1127, e1127, st1127⟩ := getF X1084 hx hZ942 hown942 (host := "") (Or.inl (wi hw 177 rfl)) Via.refl e1084 f1117 (g := (mkF m 314 #[vR mp, vR ky, vR fo, vI r_870, vR t_904, vN, vI 16, vI (((16 : Int32) - (1 : Int32)) &&& r_870), vI 0, vN, vN, vI 0, vR nv_942] [(.ref mp), (.ref mp)])) rfl rfl (hb hby d53_314)
 refine Rch.st (fun _ k => st1127 _ k) ?_
 show Rch p e below T1127 (mkF m 317 #[vR mp, vR ky, vR fo, vI r_870, vR t_904, vN, vI 16, vI (((16 : Int32) - (1 : Int32)) &&& r_870), vI 0, vN, vN, vI 0, vR nv_942] [(.int 0), (.ref mp)]) _
 refine w_iconst (pc' := 318) (v := 1) X1127 hx hby d53_317 rfl rfl ?_
 refine w_iadd (pc' := 319) X1127 hx hby d53_318 rfl ?_
 obtain ⟨T1128, h1128, X1128, e1128, W1128, st1128⟩ := putF X1127 hx hZ942 hown942 (host := "") (Or.inl (wi hw 177 rfl)) Via.refl e1127 f1117 f1097 (Or.inl (wi hw 178 rfl)) (wi hw 45 rfl) (ty := .int) (by decide) rfl rfl (g := (mkF m 319 #[vR mp, vR ky, vR fo, vI r_870, vR t_904, vN, vI 16, vI (((16 : Int32) - (1 : Int32)) &&& r_870), vI 0, vN, vN, vI 0, vR nv_942] [(.int ((0 : Int32) + (1 : Int32))), (.ref mp)])) rfl rfl (hb hby d53_319)
 have N1129 := Fr.snoc X1128 N1085 gm
 have f1141 := f1097.wr W1128
 have f1143 := f1099.other W1128 (Or.inl (Ne.symm ne888))
 have f1144 := f1100.other W1128 (Or.inl (Ne.symm ne888))
 have f1145 := f1101.other W1128 (Or.inl (Ne.symm ne888))
 have f1146 := f1102.other W1128 (Or.inl (Ne.symm ne888))
 have f1147 := f1103.wr W1128
 have f1148 := f1104.other W1128 (Or.inl (Ne.symm ne950))
 have f1149 := f1105.other W1128 (Or.inl (Ne.symm ne950))
 have f1150 := f1106.other W1128 (Or.inl (Ne.symm ne950))
 have f1151 := f1107.wr W1128
 have f1152 := f1108.other W1128 (Or.inl (Ne.symm ne960))
 have f1153 := f1109.other W1128 (Or.inl (Ne.symm ne960))
 have f1154 := f1110.other W1128 (Or.inl (Ne.symm ne960))
 have f1155 := f1111.other W1128 (Or.inl (Ne.symm ne960))
 have f1156 := f1112.other W1128 (Or.inl (Ne.symm ne960))
 have f1157 := f1113.other W1128 (Or.inl (Ne.symm ne960))
 have f1158 := f1114.other W1128 (Or.inl (Ne.symm ne960))
 have f1165 := f1121.other W1128 (Or.inr (slot_ne (t := (.object "java/util/LinkedHashMap$Entry")) (t' := .int) (Or.inl (wi hw 245 rfl)) (Or.inl (wi hw 178 rfl)) (by decide) (by decide) (by decide)))
 have Z1168 := Nat.le_trans Z1124 (Keep.of_wr W1128).1
 have hk1169 := Nat.le_trans hk1125 (Keep.of_wr W1128).1
 have Kp1170 : Keep h0 h1128 [mp, ky] := Kp1126.wr W1128 (Or.inl (List.mem_of_getElem? (i := 0) rfl))
 refine Rch.st (fun _ k => st1128 _ k) ?_
 show Rch p e below T1128 (mkF m 322 #[vR mp, vR ky, vR fo, vI r_870, vR t_904, vN, vI 16, vI (((16 : Int32) - (1 : Int32)) &&& r_870), vI 0, vN, vN, vI 0, vR nv_942] []) _
 refine w_aloadN (pc' := 323) X1128 hx hby d53_322 rfl rfl rfl ?_
 refine w_iconst (pc' := 324) (v := 1) X1128 hx hby d53_323 rfl rfl ?_
 obtain ⟨cq1171, kq1171, q1171a, q1171b, q1171c⟩ := isOf hZ942 e1128 f1141
 obtain ⟨_, _, ⟨T1171, L1171, k1171, n1171⟩, -, X1171, ⟨Lc1171, hQ1171, l1171, y1171, z1171⟩, st1171⟩ := X1128.virtualBack hx (y := y_57) (z := y_54) hown942 (mvT hZ942 (wi hw 246 rfl)) (mvT hZ942 (wi hw 247 rfl)) (own_nf (args := #[]) (mvT hZ942 (wi hw 140 rfl)) rfl) (mvT hZ942 (wi hw 249 rfl)) (mvT hZ942 (wi hw 250 rfl)) (by decide) (backOf (W := 0) (rm_ai l Z a0 hw [] mp en_993 h1128 n0 Z1168 f1141 f1165) hZ942 (wi hw 251 rfl) (wi hw 46 rfl) (by decide) (by decide)) q1171a q1171c (g := (mkF m 324 #[vR mp, vR ky, vR fo, vI r_870, vR t_904, vN, vI 16, vI (((16 : Int32) - (1 : Int32)) &&& r_870), vI 0, vN, vN, vI 0, vR nv_942] [(.int 1), (.ref mp)])) rfl (by rw [hml]; rfl) (Steps.refl _) (argsL := [(.int 1)]) (rest := []) (lenOf pd__Z_V rfl) rfl (by show 2 * 0 + _ ≤ _; exact Nat.le_of_eq rfl) (hb hby d53_324) (fun _ _ => ⟨rfl, e1128, (by decide : 4 + 0 ≤ _), (by decide : 40 + 0 ≤ _)⟩)
 dsimp only [Pt.U, Pt.locs, Pt.cells, Pt.slots] at X1171 l1171 y1171 z1171 st1171 hQ1171
 subst l1171 y1171 z1171
 obtain ⟨rfl, NQ1171, K1171⟩ := hQ1171
 have N1172 := Fr.app N1129 NQ1171
 refine Rch.st (fun _ k => st1171.trans k) ?_
 show Rch p e below T1171 (mkF m 327 #[vR mp, vR ky, vR fo, vI r_870, vR t_904, vN, vI 16, vI (((16 : Int32) - (1 : Int32)) &&& r_870), vI 0, vN, vN, vI 0, vR nv_942] []) _
 refine w_aload (pc' := 329) X1171 hx hby d53_327 rfl rfl rfl ?_
 exact Rch.retVW X1171 hx hS942 (by rw [K1171]; exact hk1169) Bd.returns rfl (Or.inr (Or.inr (Or.inr (Or.inr ⟨rfl, rfl, rfl⟩)))) (hb hby d53_329) (by rw [K1171]; exact ⟨nv_942, m2_942, x2_870, y2_870, rfl, N1172, Kp1170, (Nat.le_trans Kp938.1 pq942_0), (Nat.le_trans Kp938.1 pq942_1), f1147, f1148, f1149, f1150, f1151, f1152, f1153, f1154, f1155, f1156, f1157, f1158, f1143, f1144, f1145, f1146, own_ib_mono (own_ib (s := s.setVm T942.vm) IQ942 X1171.warmed) (by decide)⟩) (by decide) (by decide)

abbrev c54 : ByteArray := prog_50_method_12_code
theorem d54_0 : decode c54 0 = .ok (.aload_n 0, 1) := by decide +kernel
theorem d54_1 : decode c54 1 = .ok (.getfield 15, 3) := by decide +kernel
theorem d54_4 : decode c54 4 = .ok (.aload_n 1, 1) := by decide +kernel
theorem d54_5 : decode c54 5 = .ok (.invokevirtual 66, 3) := by decide +kernel
theorem d54_8 : decode c54 8 = .ok (.aload_n 0, 1) := by decide +kernel
theorem d54_9 : decode c54 9 = .ok (.aload_n 1, 1) := by decide +kernel
theorem d54_10 : decode c54 10 = .ok (.invokedynamic 71, 5) := by decide +kernel
theorem d54_15 : decode c54 15 = .ok (.invokeinterface 75 3, 5) := by decide +kernel
theorem d54_20 : decode c54 20 = .ok (.checkcast 2, 3) := by decide +kernel
theorem d54_23 : decode c54 23 = .ok (.areturn, 1) := by decide +kernel
theorem ef_rm_af_e (m : MethodId) (G1 : Int32) (G6 : Addr) (th : Addr) (nm : Addr) (fd : Addr) (fs : Addr) (fb : Addr) (kfb : ClassId) (fv : List Value) (fdd : Value) (ky : Addr) (kb : Addr) (kkb : ClassId) (b0 : Int32) (b1 : Int32) (hv : Int32) (hz : Int32) (mp : Addr)  : entryFrame m #[(.ref th), (.ref fd)] 2 = mkF m 0 #[vR th, vR fd] [] := by  first | (simp [entryFrame, mkF, argsToLocals, Value.category, maxLocals]; done) | rfl
def Q_rm_af_e (Z : State) (G1 : Int32) (G6 : Addr) (th : Addr) (nm : Addr) (fd : Addr) (fs : Addr) (fb : Addr) (kfb : ClassId) (fv : List Value) (fdd : Value) (ky : Addr) (kb : Addr) (kkb : ClassId) (b0 : Int32) (b1 : Int32) (hv : Int32) (hz : Int32) (mp : Addr) (h0 : Heap) (n0 : Nat) (v : Option Value) (h : Heap) (vm : Vm) (L : List Loc) : Prop := ∃ (nv : Addr) (m2 : Addr) (x2 : Int32) (y2 : Int32), (v = some (.ref nv)) ∧ (Fr n0 L) ∧ (Keep h0 h [mp, ky]) ∧ (h0.size ≤ nv) ∧ (h0.size ≤ m2) ∧ (Exa Z h nv "com/example/mandoline/mandoline/Variable") ∧ (Fld Z h nv "com/example/mandoline/mandoline/Variable" "fields" "Ljava/util/Map;" (.ref m2)) ∧ (Fld Z h nv "com/example/mandoline/mandoline/Variable" "name" "Ljava/lang/String;" (.ref nm)) ∧ (Fld Z h nv "com/example/mandoline/mandoline/Variable" "containing" "Lcom/example/mandoline/mandoline/Variable;" (.ref th)) ∧ (Exa Z h m2 "java/util/LinkedHashMap") ∧ (Fld Z h m2 "java/util/HashMap" "table" "[Ljava/util/HashMap$Node;" .null) ∧ (Fld Z h m2 "java/util/HashMap" "size" "I" (.int (0 : Int32))) ∧ (Fld Z h m2 "java/util/HashMap" "modCount" "I" (.int (0 : Int32))) ∧ (Fld Z h m2 "java/util/HashMap" "threshold" "I" (.int (0 : Int32))) ∧ (Fld Z h m2 "java/util/LinkedHashMap" "putMode" "I" (.int (0 : Int32))) ∧ (Fld Z h m2 "java/util/LinkedHashMap" "head" "Ljava/util/LinkedHashMap$Entry;" .null) ∧ (Fld Z h m2 "java/util/LinkedHashMap" "tail" "Ljava/util/LinkedHashMap$Entry;" .null) ∧ (Fld Z h ky "java/lang/String" "coder" "B" (.int (0 : Int32))) ∧ (Fld Z h ky "java/lang/String" "value" "[B" (.ref kb)) ∧ (Fld Z h ky "java/lang/String" "hash" "I" (.int x2)) ∧ (Fld Z h ky "java/lang/String" "hashIsZero" "Z" (.int y2)) ∧ (IB Z vm ([""] : List String))
theorem pd__Ljava_lang_Object_Ljava_util_function_Function__Ljava_lang_Object_ : parseMethodDescriptor "(Ljava/lang/Object;Ljava/util/function/Function;)Ljava/lang/Object;" = some ⟨[(.object "java/lang/Object"), (.object "java/util/function/Function")], (some (.object "java/lang/Object"))⟩ := by decide +kernel
set_option maxRecDepth 65536 in
set_option maxHeartbeats 40000000 in
theorem rm_af_e (l : Launch) (Z : State) (a0 : Array Value) (hw : ∀ d ∈ tables_1, d.before a0 Z = true) (ws : List Jvm.Cond) (G1 : Int32) (G6 : Addr) (th : Addr) (nm : Addr) (fd : Addr) (fs : Addr) (fb : Addr) (kfb : ClassId) (fv : List Value) (fdd : Value) (ky : Addr) (kb : Addr) (kkb : ClassId) (b0 : Int32) (b1 : Int32) (hv : Int32) (hz : Int32) (mp : Addr) (h0 : Heap) (n0 : Nat) (Z0 : n0 ≤ h0.size) (O2 : Sta Z Z.heap "java/lang/String" "COMPACT_STRINGS" "Z" (.int G1)) (P5 : ¬ G1 = 0) (O6 : Sta Z Z.heap "java/util/ImmutableCollections" "EMPTY_LIST" "Ljava/util/ImmutableCollections$ListN;" (.ref G6)) (f3 : Exa Z h0 th "com/example/mandoline/mandoline/Variable") (f4 : Fld Z h0 th "com/example/mandoline/mandoline/Variable" "name" "Ljava/lang/String;" (.ref nm)) (f5 : Exa Z h0 fd "com/example/mandoline/mandoline/Place$Field") (f6 : Fld Z h0 fd "com/example/mandoline/mandoline/Place$Field" "name" "Ljava/lang/String;" (.ref fs)) (f7 : Exa Z h0 fs "java/lang/String") (f8 : Fld Z h0 fs "java/lang/String" "coder" "B" (.int (0 : Int32))) (f9 : Fld Z h0 fs "java/lang/String" "value" "[B" (.ref fb)) (f10 : Arv Z h0 fb kfb .byte (0 : Int32) fv fdd) (f11 : Fld Z h0 th "com/example/mandoline/mandoline/Variable" "fields" "Ljava/util/Map;" (.ref mp)) (f12 : Fld Z h0 fd "com/example/mandoline/mandoline/Place$Field" "key" "Ljava/lang/String;" (.ref ky)) (f13 : Exa Z h0 ky "java/lang/String") (f14 : Fld Z h0 ky "java/lang/String" "coder" "B" (.int (0 : Int32))) (f15 : Fld Z h0 ky "java/lang/String" "value" "[B" (.ref kb)) (f16 : Fld Z h0 ky "java/lang/String" "hash" "I" (.int hv)) (f17 : Fld Z h0 ky "java/lang/String" "hashIsZero" "Z" (.int hz)) (f18 : Arv Z h0 kb kkb .byte (2 : Int32) [(.int b0), (.int b1)] (.int (0 : Int32))) (f19 : Exa Z h0 kb "[B") (f20 : Exa Z h0 mp "java/util/LinkedHashMap") (f21 : Fld Z h0 mp "java/util/HashMap" "table" "[Ljava/util/HashMap$Node;" .null) (f22 : Fld Z h0 mp "java/util/HashMap" "size" "I" (.int (0 : Int32))) (f23 : Fld Z h0 mp "java/util/HashMap" "modCount" "I" (.int (0 : Int32))) (f24 : Fld Z h0 mp "java/util/HashMap" "threshold" "I" (.int (0 : Int32))) (f25 : Fld Z h0 mp "java/util/LinkedHashMap" "putMode" "I" (.int (0 : Int32))) (f26 : Fld Z h0 mp "java/util/LinkedHashMap" "head" "Ljava/util/LinkedHashMap$Entry;" .null) (f27 : Fld Z h0 mp "java/util/LinkedHashMap" "tail" "Ljava/util/LinkedHashMap$Entry;" .null) (gm : n0 ≤ mp) (gk : n0 ≤ ky) (qs1 : fs ≠ ky) (Old0 : OldL Z n0 h0) :
    MetW l Z y_58 c54 2 (some (.object "com/example/mandoline/mandoline/Variable")) ws (Rm 8 5 42 3076) #[(.ref th), (.ref fd)] h0 (fun vm => IB Z vm ([""] : List String)) (Q_rm_af_e Z G1 G6 th nm fd fs fb kfb fv fdd ky kb kkb b0 b1 hv hz mp h0 n0) := by
 refine MetFree.of_bodySF (plainFor_of_name pn_com_example_mandoline_mandoline_Variable) hisR ?_
 intro p e s m args below meth c s₁ Bd hml0 hP hK
 obtain ⟨rfl, hZ, hh, hI⟩ := hP
 have hx := Bd.exec
 have hby := Bd.bytes
 have hml : c.maxLocals = 2 := hml0
 have hown : s.vm.findClass "com/example/mandoline/mandoline/Variable" = some m.cls := findClass_of_methodNamed Bd.named
 have X0 : Stand p l e (Rm 8 5 42 3076) (s.setVm s.vm) m #[(.ref th), (.ref fd)] below meth c s₁ [] 0 0 := Stand.of_body Bd
 have e0 : s₁.heap = h0 := by rw [← hh, Bd.state]; rfl
 have N0 := Fr.nil n0
 have K00 : Keep h0 h0 [mp, ky] := Keep.refl _ _
 have hS0 : s.Since s.vm s.heap.size := (State.WarmedH.refl s).since _
 have hk0 : s.heap.size ≤ h0.size := by rw [hh]; exact Nat.le_refl _
 have hkeep : ∀ (b : Addr) (cl : Cell), Z.heap[b]? = some cl → s.heap[b]? = some cl := by rw [hh]; exact Old0.2.2
 show Rch p e below s₁ (entryFrame m #[(.ref th), (.ref fd)] 2) (FinW s (Q_rm_af_e Z G1 G6 th nm fd fs fb kfb fv fdd ky kb kkb b0 b1 hv hz mp h0 n0) 5 42)
 refine Rch.cast (ef_rm_af_e m G1 G6 th nm fd fs fb kfb fv fdd ky kb kkb b0 b1 hv hz mp) ?_
 show Rch p e below s₁ (mkF m 0 #[vR th, vR fd] []) _
 refine w_aloadN (pc' := 1) X0 hx hby d54_0 rfl rfl rfl ?_
 obtain ⟨T1173, X1173, e1173, st1173⟩ := getF X0 hx hZ hown (host := "") (Or.inl (wi hw 70 rfl)) Via.refl e0 f11 (g := (mkF m 1 #[vR th, vR fd] [(.ref th)])) rfl rfl (hb hby d54_1)
 refine Rch.st (fun _ k => st1173 _ k) ?_
 show Rch p e below T1173 (mkF m 4 #[vR th, vR fd] [(.ref mp)]) _
 refine w_aloadN (pc' := 5) X1173 hx hby d54_4 rfl rfl rfl ?_
 obtain ⟨cq1174, kq1174, q1174a, q1174b, q1174c⟩ := isOf hZ e1173 f5
 obtain ⟨_, _, ⟨T1174, L1174, k1174, n1174⟩, -, X1174, ⟨Lc1174, hQ1174, l1174, y1174, z1174⟩, st1174⟩ := X1173.virtualBack hx (y := y_39) (z := y_39) hown (mvT hZ (wi hw 128 rfl)) (mvT hZ (wi hw 129 rfl)) (notFace_of_selects (args := #[]) (mvT hZ (wi hw 131 rfl))) (mvT hZ (wi hw 131 rfl)) (mvT hZ (wi hw 130 rfl)) (by decide) (backOf (W := 1) (rm_ky l Z a0 hw [] fd ky h0 n0 Z0 f12) hZ (wi hw 132 rfl) (wi hw 109 rfl) (by decide) (by decide)) q1174a q1174c (g := (mkF m 5 #[vR th, vR fd] [(.ref fd), (.ref mp)])) rfl (by rw [hml]; rfl) (Steps.refl _) (argsL := []) (rest := [(.ref mp)]) (lenOf pd___Ljava_lang_String_ rfl) rfl (by show 2 * 0 + _ ≤ _; exact Nat.le_of_eq rfl) (hb hby d54_5) (fun _ _ => ⟨rfl, e1173, (by decide : 0 + 0 ≤ _), (by decide : 0 + 0 ≤ _)⟩)
 dsimp only [Pt.U, Pt.locs, Pt.cells, Pt.slots] at X1174 l1174 y1174 z1174 st1174 hQ1174
 subst l1174 y1174 z1174
 obtain ⟨rfl, NQ1174, K1174⟩ := hQ1174
 have N1175 := Fr.app N0 NQ1174
 refine Rch.st (fun _ k => st1174.trans k) ?_
 show Rch p e below T1174 (mkF m 8 #[vR th, vR fd] [(.ref ky), (.ref mp)]) _
 refine w_aloadN (pc' := 9) X1174 hx hby d54_8 rfl rfl rfl ?_
 refine w_aloadN (pc' := 10) X1174 hx hby d54_9 rfl rfl rfl ?_
 obtain ⟨T1176, h1176, cK1176, MD1176, X1176, e1176, E1176, F1176, st1176⟩ := own_mkLam (σ := own_sg) X1174 hx hZ Bd.named (wi hw 133 rfl) rfl own_hc0 (wi hw 136 rfl) K1174 (g := (mkF m 10 #[vR th, vR fd] [(.ref fd), (.ref th), (.ref ky), (.ref mp)])) rfl rfl (by rw [hml]; rfl) (hb hby d54_10) (va := (.ref th)) (vb := (.ref fd)) rfl ⟨rfl, rfl⟩ ⟨rfl, rfl⟩ (by show 2 * 0 + 4 + 3072 ≤ _; decide) (by decide) (by decide)
 obtain ⟨a1176, g1176⟩ : ∃ z, z = h0.size := ⟨_, rfl⟩
 rw [← g1176] at F1176 st1176
 have ne1181 : ky ≠ a1176 := by rw [g1176]; exact Nat.ne_of_lt f13.lt
 have ne1182 : mp ≠ a1176 := by rw [g1176]; exact Nat.ne_of_lt f20.lt
 have hk1186 := Nat.le_trans hk0 E1176.1
 have f1187 := f3.ext E1176
 have f1188 := f4.ext E1176
 have f1189 := f5.ext E1176
 have f1190 := f6.ext E1176
 have f1191 := f7.ext E1176
 have f1192 := f8.ext E1176
 have f1193 := f9.ext E1176
 have f1194 := f10.ext E1176
 have f1197 := f13.ext E1176
 have f1198 := f14.ext E1176
 have f1199 := f15.ext E1176
 have f1200 := f16.ext E1176
 have f1201 := f17.ext E1176
 have f1202 := f18.ext E1176
 have f1203 := f19.ext E1176
 have f1204 := f20.ext E1176
 have f1205 := f21.ext E1176
 have f1206 := f22.ext E1176
 have f1207 := f23.ext E1176
 have f1208 := f24.ext E1176
 have f1209 := f25.ext E1176
 have f1210 := f26.ext E1176
 have f1211 := f27.ext E1176
 have Old1212 := Old0.ext E1176
 have Z1213 := Nat.le_trans Z0 E1176.1
 have Kp1214 : Keep h0 h1176 [mp, ky] := K00.ext E1176
 refine Rch.st (fun _ k => st1176 _ k) ?_
 show Rch p e below T1176 (mkF m 15 #[vR th, vR fd] [(.ref a1176), (.ref ky), (.ref mp)]) _
 obtain ⟨cq1215, kq1215, q1215a, q1215b, q1215c⟩ := isOf hZ e1176 f1204
 obtain ⟨_, _, ⟨T1215, L1215, k1215, n1215⟩, -, X1215, hSx1215, hgx1215, ⟨Lc1215, hQ1215, l1215, y1215, z1215⟩, st1215⟩ := X1176.interfaceBackS hx (xi := y_59) (y := y_55) hown (mvT hZ (wi hw 137 rfl)) (mvT hZ (wi hw 138 rfl)) (mvT hZ (wi hw 139 rfl)) (mvT hZ (wi hw 140 rfl)) (mvT hZ (wi hw 141 rfl)) (mvT hZ (wi hw 142 rfl)) (mvT hZ (wi hw 143 rfl)) (mvT hZ (wi hw 144 rfl)) (by decide) (backOfV (PV := fun vm => IB Z vm ([""] : List String)) (W := 0) (rm_ci_e l Z a0 hw [] G1 G6 th nm fd fs fb kfb fv fdd ky kb kkb b0 b1 hv hz mp a1176 cK1176 h1176 n0 Z1213 (O2) (P5) (O6) f1187 f1188 f1189 f1190 f1191 f1192 f1193 f1194 f1197 f1198 f1199 f1200 f1201 f1202 f1203 f1204 f1205 f1206 f1207 f1208 f1209 f1210 f1211 F1176 (MD1176) (gm) (gk) ((Ne.symm ne1181)) ((Ne.symm ne1182)) (qs1) Old1212) hZ (fun vm hW => own_ib (s := s.setVm s.vm) hI hW) (wi hw 145 rfl) (wi hw 54 rfl) (by decide) (by decide)) q1215a q1215b q1215c (g := (mkF m 15 #[vR th, vR fd] [(.ref a1176), (.ref ky), (.ref mp)])) rfl (by rw [hml]; rfl) (Steps.refl _) (argsL := [(.ref ky), (.ref a1176)]) (rest := []) (lenOf pd__Ljava_lang_Object_Ljava_util_function_Function__Ljava_lang_Object_ rfl) rfl (by show 2 * 0 + _ ≤ _; exact Nat.le_of_eq rfl) (hb hby d54_15) (fun _ _ => ⟨rfl, e1176, (by decide : 1 + 4 ≤ _), (by decide : 2 + 40 ≤ _)⟩)
 dsimp only [Pt.U, Pt.locs, Pt.cells, Pt.slots] at X1215 l1215 y1215 z1215 st1215 hQ1215 hSx1215 hgx1215
 subst l1215 y1215 z1215
 have hS1215 := foldS hS0 (by rw [e1176]; exact hk1186) hSx1215 hgx1215
 have hk1215 : T1215.heap.size ≤ T1215.heap.size := Nat.le_refl _
 have hZ1215 : Z.Warmed39 (s.setVm T1215.vm).vm := State.Warmed39.trans (t := s.setVm s.vm) hZ hSx1215.1
 have hown1215 : (s.setVm T1215.vm).vm.findClass "com/example/mandoline/mandoline/Variable" = some m.cls := by rw [show (s.setVm T1215.vm).vm = T1215.vm from rfl, hSx1215.1.alike.findClass]; exact hown
 have X1215w : Stand p l e (Rm 8 5 42 3076) (s.setVm T1215.vm) m _ below meth c T1215 _ _ _ := X1215
 obtain ⟨nv_1215, m2_1215, x2_1215, y2_1215, rfl, NQ1215, K1215, pq1215_0, pq1215_1, fq1215_0, fq1215_1, fq1215_2, fq1215_3, fq1215_4, fq1215_5, fq1215_6, fq1215_7, fq1215_8, fq1215_9, fq1215_10, fq1215_11, fq1215_12, fq1215_13, fq1215_14, fq1215_15, IQ1215⟩ := hQ1215
 have N1216 := Fr.app N1175 NQ1215
 have Kp1260 : Keep h0 T1215.heap [mp, ky] := Kp1214.trans K1215 (allS (Or.inl (List.mem_of_getElem? (i := 0) rfl)) (allS (Or.inl (List.mem_of_getElem? (i := 1) rfl)) all0))
 refine Rch.st (fun _ k => st1215.trans k) ?_
 show Rch p e below T1215 (mkF m 20 #[vR th, vR fd] [(.ref nv_1215)]) _
 obtain ⟨T1262, X1262, e1262, st1262⟩ := castY X1215w hx hZ1215 hown1215 (wi hw 198 rfl) (rfl : T1215.heap = T1215.heap) (Ins.self fq1215_0) (g := (mkF m 20 #[vR th, vR fd] [(.ref nv_1215)])) rfl rfl (hb hby d54_20)
 refine Rch.st (fun _ k => st1262 _ k) ?_
 show Rch p e below T1262 (mkF m 23 #[vR th, vR fd] [(.ref nv_1215)]) _
 exact Rch.retVW X1262 hx hS1215 (by rw [e1262]; exact hk1215) Bd.returns rfl (Or.inr (Or.inr (Or.inr (Or.inr ⟨rfl, rfl, rfl⟩)))) (hb hby d54_23) (by rw [e1262]; exact ⟨nv_1215, m2_1215, x2_1215, y2_1215, rfl, N1216, Kp1260, (Nat.le_trans Kp1214.1 pq1215_0), (Nat.le_trans Kp1214.1 pq1215_1), fq1215_0, fq1215_1, fq1215_2, fq1215_3, fq1215_4, fq1215_5, fq1215_6, fq1215_7, fq1215_8, fq1215_9, fq1215_10, fq1215_11, fq1215_12, fq1215_13, fq1215_14, fq1215_15, own_ib_mono (own_ib (s := s.setVm T1215.vm) IQ1215 X1262.warmed) (by decide)⟩) (by decide) (by decide)

theorem ef_rm_lam_n1 (m : MethodId) (G1 : Int32) (G6 : Addr) (th : Addr) (nm : Addr) (fd : Addr) (fs : Addr) (fb : Addr) (kfb : ClassId) (fv : List Value) (fdd : Value) (nb : Addr) (knb : ClassId) (nv_ : List Value) (ndd : Value) (ky : Addr)  : entryFrame m #[(.ref th), (.ref fd), (.ref ky)] 3 = mkF m 0 #[vR th, vR fd, vR ky] [] := by  first | (simp [entryFrame, mkF, argsToLocals, Value.category, maxLocals]; done) | rfl
def Q_rm_lam_n1 (Z : State) (G1 : Int32) (G6 : Addr) (th : Addr) (nm : Addr) (fd : Addr) (fs : Addr) (fb : Addr) (kfb : ClassId) (fv : List Value) (fdd : Value) (nb : Addr) (knb : ClassId) (nv_ : List Value) (ndd : Value) (ky : Addr) (h0 : Heap) (n0 : Nat) (v : Option Value) (h : Heap) (vm : Vm) (L : List Loc) : Prop := ∃ (nv : Addr) (m2 : Addr) (ns : Addr) (ts : Addr) (kts : ClassId) (tv : List Value) (sa : Addr) (sbb : Addr) (ksb : ClassId), (v = some (.ref nv)) ∧ (Fr n0 L) ∧ (Keep h0 h []) ∧ (h0.size ≤ nv) ∧ (h0.size ≤ m2) ∧ (h0.size ≤ ns) ∧ (h0.size ≤ ts) ∧ (Exa Z h nv "com/example/mandoline/mandoline/Variable") ∧ (Fld Z h nv "com/example/mandoline/mandoline/Variable" "fields" "Ljava/util/Map;" (.ref m2)) ∧ (Fld Z h nv "com/example/mandoline/mandoline/Variable" "name" "Ljava/lang/String;" (.ref ns)) ∧ (Fld Z h nv "com/example/mandoline/mandoline/Variable" "containing" "Lcom/example/mandoline/mandoline/Variable;" (.ref th)) ∧ (Exa Z h m2 "java/util/LinkedHashMap") ∧ (Fld Z h m2 "java/util/HashMap" "table" "[Ljava/util/HashMap$Node;" .null) ∧ (Fld Z h m2 "java/util/HashMap" "size" "I" (.int (0 : Int32))) ∧ (Fld Z h m2 "java/util/HashMap" "modCount" "I" (.int (0 : Int32))) ∧ (Fld Z h m2 "java/util/HashMap" "threshold" "I" (.int (0 : Int32))) ∧ (Fld Z h m2 "java/util/LinkedHashMap" "putMode" "I" (.int (0 : Int32))) ∧ (Fld Z h m2 "java/util/LinkedHashMap" "head" "Ljava/util/LinkedHashMap$Entry;" .null) ∧ (Fld Z h m2 "java/util/LinkedHashMap" "tail" "Ljava/util/LinkedHashMap$Entry;" .null) ∧ (Exa Z h ns "java/lang/String") ∧ (Fld Z h ns "java/lang/String" "coder" "B" (.int (0 : Int32))) ∧ (Fld Z h ns "java/lang/String" "value" "[B" (.ref ts)) ∧ (Arv Z h ts kts .byte (5 : Int32) tv (.int (0 : Int32))) ∧ (Exa Z h sa "java/lang/String") ∧ (Fld Z h sa "java/lang/String" "coder" "B" (.int (0 : Int32))) ∧ (Fld Z h sa "java/lang/String" "value" "[B" (.ref sbb)) ∧ (Arv Z h sbb ksb .byte (1 : Int32) [(.int (46 : Int32))] (.int (0 : Int32))) ∧ (IB Z vm (["."] : List String)) ∧ (Lit (Z.setVm vm) "com/example/mandoline/mandoline/Variable" 131 sa)
theorem pd__Ljava_lang_String__Ljava_lang_StringBuilder_ : parseMethodDescriptor "(Ljava/lang/String;)Ljava/lang/StringBuilder;" = some ⟨[(.object "java/lang/String")], (some (.object "java/lang/StringBuilder"))⟩ := by decide +kernel
set_option maxRecDepth 65536 in
set_option maxHeartbeats 40000000 in
theorem rm_lam_n1 (l : Launch) (Z : State) (a0 : Array Value) (hw : ∀ d ∈ tables_1, d.before a0 Z = true) (ws : List Jvm.Cond) (G1 : Int32) (G6 : Addr) (th : Addr) (nm : Addr) (fd : Addr) (fs : Addr) (fb : Addr) (kfb : ClassId) (fv : List Value) (fdd : Value) (nb : Addr) (knb : ClassId) (nv_ : List Value) (ndd : Value) (ky : Addr) (h0 : Heap) (n0 : Nat) (Z0 : n0 ≤ h0.size) (O2 : Sta Z Z.heap "java/lang/String" "COMPACT_STRINGS" "Z" (.int G1)) (P5 : ¬ G1 = 0) (O6 : Sta Z Z.heap "java/util/ImmutableCollections" "EMPTY_LIST" "Ljava/util/ImmutableCollections$ListN;" (.ref G6)) (f3 : Exa Z h0 th "com/example/mandoline/mandoline/Variable") (f4 : Fld Z h0 th "com/example/mandoline/mandoline/Variable" "name" "Ljava/lang/String;" (.ref nm)) (f5 : Exa Z h0 fd "com/example/mandoline/mandoline/Place$Field") (f6 : Fld Z h0 fd "com/example/mandoline/mandoline/Place$Field" "name" "Ljava/lang/String;" (.ref fs)) (f7 : Exa Z h0 fs "java/lang/String") (f8 : Fld Z h0 fs "java/lang/String" "coder" "B" (.int (0 : Int32))) (f9 : Fld Z h0 fs "java/lang/String" "value" "[B" (.ref fb)) (f10 : Arv Z h0 fb kfb .byte (2 : Int32) fv fdd) (f11 : Exa Z h0 nm "java/lang/String") (f12 : Fld Z h0 nm "java/lang/String" "coder" "B" (.int (0 : Int32))) (f13 : Fld Z h0 nm "java/lang/String" "value" "[B" (.ref nb)) (f14 : Arv Z h0 nb knb .byte (2 : Int32) nv_ ndd) (H131 : Jvm.Lit.constHeld Z "com/example/mandoline/mandoline/Variable" 131) (hcw : Jvm.Lit.compactW.before a0 Z = true) (Old0 : OldL Z n0 h0) :
    MetW l Z y_1 c52 3 (some (.object "com/example/mandoline/mandoline/Variable")) ws (Rm 6 8 66 93) #[(.ref th), (.ref fd), (.ref ky)] h0 (fun vm => IB Z vm ([] : List String)) (Q_rm_lam_n1 Z G1 G6 th nm fd fs fb kfb fv fdd nb knb nv_ ndd ky h0 n0) := by
 refine MetFree.of_bodySF (plainFor_of_name pn_com_example_mandoline_mandoline_Variable) hisR ?_
 intro p e s m args below meth c s₁ Bd hml0 hP hK
 obtain ⟨rfl, hZ, hh, hI⟩ := hP
 have hx := Bd.exec
 have hby := Bd.bytes
 have hml : c.maxLocals = 3 := hml0
 have hown : s.vm.findClass "com/example/mandoline/mandoline/Variable" = some m.cls := findClass_of_methodNamed Bd.named
 have X0 : Stand p l e (Rm 6 8 66 93) (s.setVm s.vm) m #[(.ref th), (.ref fd), (.ref ky)] below meth c s₁ [] 0 0 := Stand.of_body Bd
 have e0 : s₁.heap = h0 := by rw [← hh, Bd.state]; rfl
 have N0 := Fr.nil n0
 have K00 : Keep h0 h0 [] := Keep.refl _ _
 have hS0 : s.Since s.vm s.heap.size := (State.WarmedH.refl s).since _
 have hk0 : s.heap.size ≤ h0.size := by rw [hh]; exact Nat.le_refl _
 have hkeep : ∀ (b : Addr) (cl : Cell), Z.heap[b]? = some cl → s.heap[b]? = some cl := by rw [hh]; exact Old0.2.2
 show Rch p e below s₁ (entryFrame m #[(.ref th), (.ref fd), (.ref ky)] 3) (FinW s (Q_rm_lam_n1 Z G1 G6 th nm fd fs fb kfb fv fdd nb knb nv_ ndd ky h0 n0) 8 66)
 refine Rch.cast (ef_rm_lam_n1 m G1 G6 th nm fd fs fb kfb fv fdd nb knb nv_ ndd ky) ?_
 have Z0f := Nat.le_refl h0.size
 have N0f := Fr.nil h0.size
 have OldF := Old0.up Z0
 show Rch p e below s₁ (mkF m 0 #[vR th, vR fd, vR ky] []) _
 obtain ⟨T1263, h1263, X1263, e1263, E1263, A1263, D1263, -, st1263⟩ := newO X0 hx hZ hown (wi hw 198 rfl) (wi hw 35 rfl) (wi hw 36 rfl) e0 (g := (mkF m 0 #[vR th, vR fd, vR ky] [])) rfl (hb hby d52_0) (by decide) (by decide)
 obtain ⟨a1263, g1263⟩ : ∃ z, z = h0.size := ⟨_, rfl⟩
 rw [← g1263] at A1263 D1263 st1263
 have ge1270 : h0.size ≤ a1263 := Nat.le_trans Z0f (Nat.le_of_eq g1263.symm)
 have hk1272 := Nat.le_trans hk0 E1263.1
 have f1273 := f3.ext E1263
 have f1274 := f4.ext E1263
 have f1275 := f5.ext E1263
 have f1276 := f6.ext E1263
 have f1277 := f7.ext E1263
 have f1278 := f8.ext E1263
 have f1279 := f9.ext E1263
 have f1280 := f10.ext E1263
 have f1281 := f11.ext E1263
 have f1282 := f12.ext E1263
 have f1283 := f13.ext E1263
 have f1284 := f14.ext E1263
 have Old1285 := OldF.ext E1263
 have Z1286 := Nat.le_trans Z0f E1263.1
 have Kp1287 : Keep h0 h1263 [] := K00.ext E1263
 have f1288 : Fld Z h1263 a1263 "com/example/mandoline/mandoline/Variable" "fields" "Ljava/util/Map;" .null := D1263 (Or.inr (wi hw 71 rfl)) (ty := (.object "java/util/Map")) (by decide)
 have f1289 : Fld Z h1263 a1263 "com/example/mandoline/mandoline/Variable" "declarationNodes" "Ljava/util/List;" .null := D1263 (Or.inl (wi hw 79 rfl)) (ty := (.object "java/util/List")) (by decide)
 have f1290 : Fld Z h1263 a1263 "com/example/mandoline/mandoline/Variable" "name" "Ljava/lang/String;" .null := D1263 (Or.inr (wi hw 81 rfl)) (ty := (.object "java/lang/String")) (by decide)
 have f1291 : Fld Z h1263 a1263 "com/example/mandoline/mandoline/Variable" "declaringStatement" "Lcom/example/mandoline/mandoline/ClangNode;" .null := D1263 (Or.inr (wi hw 83 rfl)) (ty := (.object "com/example/mandoline/mandoline/ClangNode")) (by decide)
 have f1292 : Fld Z h1263 a1263 "com/example/mandoline/mandoline/Variable" "function" "Ljava/lang/String;" .null := D1263 (Or.inr (wi hw 85 rfl)) (ty := (.object "java/lang/String")) (by decide)
 have f1293 : Fld Z h1263 a1263 "com/example/mandoline/mandoline/Variable" "containing" "Lcom/example/mandoline/mandoline/Variable;" .null := D1263 (Or.inr (wi hw 87 rfl)) (ty := (.object "com/example/mandoline/mandoline/Variable")) (by decide)
 refine Rch.st (fun _ k => st1263 _ k) ?_
 show Rch p e below T1263 (mkF m 3 #[vR th, vR fd, vR ky] [(.ref a1263)]) _
 refine w_dup (pc' := 4) X1263 hx hby d52_3 rfl rfl ?_
 refine w_aloadN (pc' := 5) X1263 hx hby d52_4 rfl rfl rfl ?_
 obtain ⟨cq1294, kq1294, q1294a, q1294b, q1294c⟩ := isOf hZ e1263 f1275
 obtain ⟨_, _, ⟨T1294, L1294, k1294, n1294⟩, -, X1294, ⟨Lc1294, hQ1294, l1294, y1294, z1294⟩, st1294⟩ := X1263.virtualBack hx (y := y_40) (z := y_40) hown (mvT hZ (wi hw 199 rfl)) (mvT hZ (wi hw 200 rfl)) (notFace_of_selects (args := #[]) (mvT hZ (wi hw 202 rfl))) (mvT hZ (wi hw 202 rfl)) (mvT hZ (wi hw 201 rfl)) (by decide) (backOf (W := 2) (rm_nm l Z a0 hw [] fd fs h1263 h0.size Z1286 f1276) hZ (wi hw 203 rfl) (wi hw 109 rfl) (by decide) (by decide)) q1294a q1294c (g := (mkF m 5 #[vR th, vR fd, vR ky] [(.ref fd), (.ref a1263), (.ref a1263)])) rfl (by rw [hml]; rfl) (Steps.refl _) (argsL := []) (rest := [(.ref a1263), (.ref a1263)]) (lenOf pd___Ljava_lang_String_ rfl) rfl (by show 2 * 0 + _ ≤ _; exact Nat.le_of_eq rfl) (hb hby d52_5) (fun _ _ => ⟨rfl, e1263, (by decide : 1 + 0 ≤ _), (by decide : 6 + 0 ≤ _)⟩)
 dsimp only [Pt.U, Pt.locs, Pt.cells, Pt.slots] at X1294 l1294 y1294 z1294 st1294 hQ1294
 subst l1294 y1294 z1294
 obtain ⟨rfl, NQ1294, K1294⟩ := hQ1294
 have N1295 := Fr.app N0f NQ1294
 refine Rch.st (fun _ k => st1294.trans k) ?_
 show Rch p e below T1294 (mkF m 8 #[vR th, vR fd, vR ky] [(.ref fs), (.ref a1263), (.ref a1263)]) _
 obtain ⟨cq1296, kq1296, q1296a, q1296b, q1296c⟩ := isOf hZ K1294 f1277
 obtain ⟨_, _, ⟨T1296, L1296, k1296, n1296⟩, -, X1296, ⟨Lc1296, hQ1296, l1296, y1296, z1296⟩, st1296⟩ := X1294.virtualBack hx (y := y_41) (z := y_41) hown (mvT hZ (wi hw 204 rfl)) (mvT hZ (wi hw 205 rfl)) (notFace_of_selects (args := #[]) (mvT hZ (wi hw 207 rfl))) (mvT hZ (wi hw 207 rfl)) (mvT hZ (wi hw 206 rfl)) (by decide) (backOf (W := 2) (rm_ie2 l Z a0 hw [] fs fb kfb fv fdd h1263 h0.size Z1286 f1279 f1280) hZ (wi hw 208 rfl) (wi hw 7 rfl) (by decide) (by decide)) q1296a q1296c (g := (mkF m 8 #[vR th, vR fd, vR ky] [(.ref fs), (.ref a1263), (.ref a1263)])) rfl (by rw [hml]; rfl) (Steps.refl _) (argsL := []) (rest := [(.ref a1263), (.ref a1263)]) (lenOf pd___Z rfl) rfl (by show 2 * 0 + _ ≤ _; exact Nat.le_of_eq rfl) (hb hby d52_8) (fun _ _ => ⟨rfl, K1294, (by decide : 1 + 0 ≤ _), (by decide : 6 + 0 ≤ _)⟩)
 dsimp only [Pt.U, Pt.locs, Pt.cells, Pt.slots] at X1296 l1296 y1296 z1296 st1296 hQ1296
 subst l1296 y1296 z1296
 obtain ⟨rfl, NQ1296, K1296⟩ := hQ1296
 have N1297 := Fr.app N1295 NQ1296
 refine Rch.st (fun _ k => st1296.trans k) ?_
 show Rch p e below T1296 (mkF m 11 #[vR th, vR fd, vR ky] [(.int 0), (.ref a1263), (.ref a1263)]) _
 refine w_ifYes (pc' := 21) X1296 hx hby d52_11 (XT.i0_eq_t (by decide)) (by decide) ?_
 obtain ⟨T1298, h1298, X1298, e1298, E1298, A1298, D1298, -, st1298⟩ := newO X1296 hx hZ hown (wi hw 258 rfl) (wi hw 259 rfl) (wi hw 260 rfl) K1296 (g := (mkF m 21 #[vR th, vR fd, vR ky] [(.ref a1263), (.ref a1263)])) rfl (hb hby d52_21) (by decide) (by decide)
 obtain ⟨a1298, g1298⟩ : ∃ z, z = h1263.size := ⟨_, rfl⟩
 rw [← g1298] at A1298 D1298 st1298
 have ne1299 : a1263 ≠ a1298 := by rw [g1298]; exact Nat.ne_of_lt A1263.lt
 have ne1300 : fb ≠ a1298 := by rw [g1298]; exact Nat.ne_of_lt f1280.lt
 have ne1301 : fd ≠ a1298 := by rw [g1298]; exact Nat.ne_of_lt f1275.lt
 have ne1302 : fs ≠ a1298 := by rw [g1298]; exact Nat.ne_of_lt f1277.lt
 have ne1303 : nb ≠ a1298 := by rw [g1298]; exact Nat.ne_of_lt f1284.lt
 have ne1304 : nm ≠ a1298 := by rw [g1298]; exact Nat.ne_of_lt f1281.lt
 have ne1305 : th ≠ a1298 := by rw [g1298]; exact Nat.ne_of_lt f1273.lt
 have ge1306 : h0.size ≤ a1298 := Nat.le_trans Z1286 (Nat.le_of_eq g1298.symm)
 have hk1308 := Nat.le_trans hk1272 E1298.1
 have f1310 := f1274.ext E1298
 have f1311 := f1275.ext E1298
 have f1312 := f1276.ext E1298
 have f1313 := f1277.ext E1298
 have f1314 := f1278.ext E1298
 have f1315 := f1279.ext E1298
 have f1316 := f1280.ext E1298
 have f1317 := f1281.ext E1298
 have f1318 := f1282.ext E1298
 have f1319 := f1283.ext E1298
 have f1320 := f1284.ext E1298
 have f1321 := A1263.ext E1298
 have f1322 := f1288.ext E1298
 have f1323 := f1289.ext E1298
 have f1324 := f1290.ext E1298
 have f1325 := f1291.ext E1298
 have f1326 := f1292.ext E1298
 have f1327 := f1293.ext E1298
 have Old1328 := Old1285.ext E1298
 have Z1329 := Nat.le_trans Z1286 E1298.1
 have Kp1330 : Keep h0 h1298 [] := Kp1287.ext E1298
 have f1331 : Fld Z h1298 a1298 "java/lang/AbstractStringBuilder" "value" "[B" .null := D1298 (Or.inl (wi hw 273 rfl)) (ty := (.array .byte)) (by decide)
 have f1332 : Fld Z h1298 a1298 "java/lang/AbstractStringBuilder" "coder" "B" (.int (0 : Int32)) := D1298 (Or.inl (wi hw 275 rfl)) (ty := .byte) (by decide)
 have f1333 : Fld Z h1298 a1298 "java/lang/AbstractStringBuilder" "count" "I" (.int (0 : Int32)) := D1298 (Or.inl (wi hw 297 rfl)) (ty := .int) (by decide)
 refine Rch.st (fun _ k => st1298 _ k) ?_
 show Rch p e below T1298 (mkF m 24 #[vR th, vR fd, vR ky] [(.ref a1298), (.ref a1263), (.ref a1263)]) _
 refine w_dup (pc' := 25) X1298 hx hby d52_24 rfl rfl ?_
 obtain ⟨_, _, ⟨T1334, L1334, k1334, n1334⟩, -, X1334, ⟨Lc1334, hQ1334, l1334, y1334, z1334⟩, st1334⟩ := X1298.specialBack hx (y := y_11) rfl hown (mvT hZ (wi hw 261 rfl)) (mvT hZ (wi hw 262 rfl)) (mvT hZ (wi hw 263 rfl)) (by decide) (backOf (W := 3) (rm_Bi l Z a0 hw [] G1 a1298 h1298 h0.size Z1329 (O2) (P5) A1298 f1331 f1332 f1333 (ge1306) Old1328) hZ (wi hw 263 rfl) (wi hw 260 rfl) (by decide) (by decide)) (g := (mkF m 25 #[vR th, vR fd, vR ky] [(.ref a1298), (.ref a1298), (.ref a1263), (.ref a1263)])) rfl (by rw [hml]; rfl) (Steps.refl _) (a := a1298) (argsL := []) (rest := [(.ref a1298), (.ref a1263), (.ref a1263)]) (lenOf pd___V rfl) rfl (by show 2 * 0 + _ ≤ _; exact Nat.le_of_eq rfl) (hb hby d52_25) (fun _ _ => ⟨rfl, e1298, (by decide : 2 + 1 ≤ _), (by decide : 10 + 16 ≤ _)⟩)
 dsimp only [Pt.U, Pt.locs, Pt.cells, Pt.slots] at X1334 l1334 y1334 z1334 st1334 hQ1334
 subst l1334 y1334 z1334
 obtain ⟨t_1334, kt_1334, rfl, NQ1334, K1334, pq1334_0, fq1334_0, fq1334_1, fq1334_2, fq1334_3⟩ := hQ1334
 have N1335 := Fr.app N1297 NQ1334
 have ne1336 := nlt f1321.lt pq1334_0
 have ne1337 := nlt A1298.lt pq1334_0
 have ne1338 := nlt f1316.lt pq1334_0
 have ne1339 := nlt f1311.lt pq1334_0
 have ne1340 := nlt f1313.lt pq1334_0
 have ne1341 := nlt f1320.lt pq1334_0
 have ne1342 := nlt f1317.lt pq1334_0
 have ge1344 : h0.size ≤ t_1334 := Nat.le_trans Z1329 pq1334_0
 have f1346 := f1310.keep K1334 (ninS ne1305 nin0)
 have f1347 := f1311.keep K1334
 have f1348 := f1312.keep K1334 (ninS ne1301 nin0)
 have f1349 := f1313.keep K1334
 have f1350 := f1314.keep K1334 (ninS ne1302 nin0)
 have f1351 := f1315.keep K1334 (ninS ne1302 nin0)
 have f1352 := f1316.keep K1334 (ninS ne1300 nin0)
 have f1353 := f1317.keep K1334
 have f1354 := f1318.keep K1334 (ninS ne1304 nin0)
 have f1355 := f1319.keep K1334 (ninS ne1304 nin0)
 have f1356 := f1320.keep K1334 (ninS ne1303 nin0)
 have f1357 := f1321.keep K1334
 have f1358 := f1322.keep K1334 (ninS ne1299 nin0)
 have f1359 := f1323.keep K1334 (ninS ne1299 nin0)
 have f1360 := f1324.keep K1334 (ninS ne1299 nin0)
 have f1361 := f1325.keep K1334 (ninS ne1299 nin0)
 have f1362 := f1326.keep K1334 (ninS ne1299 nin0)
 have f1363 := f1327.keep K1334 (ninS ne1299 nin0)
 have f1364 := A1298.keep K1334
 have Old1365 := Old1328.keep K1334 (allS ge1306 all0)
 have Kp1366 : Keep h0 T1334.heap [] := Kp1330.trans K1334 (allS (Or.inr (Nat.le_trans Kp1287.1 (Nat.le_of_eq g1298.symm))) all0)
 have Z1367 := Nat.le_trans Z1329 K1334.1
 have hk1368 := Nat.le_trans hk1308 K1334.1
 refine Rch.st (fun _ k => st1334.trans k) ?_
 show Rch p e below T1334 (mkF m 28 #[vR th, vR fd, vR ky] [(.ref a1298), (.ref a1263), (.ref a1263)]) _
 refine w_aloadN (pc' := 29) X1334 hx hby d52_28 rfl rfl rfl ?_
 obtain ⟨T1369, X1369, e1369, st1369⟩ := getF X1334 hx hZ hown (host := "") (Or.inl (wi hw 80 rfl)) Via.refl (rfl : T1334.heap = T1334.heap) f1346 (g := (mkF m 29 #[vR th, vR fd, vR ky] [(.ref th), (.ref a1298), (.ref a1263), (.ref a1263)])) rfl rfl (hb hby d52_29)
 refine Rch.st (fun _ k => st1369 _ k) ?_
 show Rch p e below T1369 (mkF m 32 #[vR th, vR fd, vR ky] [(.ref nm), (.ref a1298), (.ref a1263), (.ref a1263)]) _
 obtain ⟨cq1370, kq1370, q1370a, q1370b, q1370c⟩ := isOf hZ e1369 f1364
 obtain ⟨_, _, ⟨T1370, L1370, k1370, n1370⟩, -, X1370, ⟨Lc1370, hQ1370, l1370, y1370, z1370⟩, st1370⟩ := X1369.virtualBack hx (y := y_17) (z := y_17) hown (mvT hZ (wi hw 276 rfl)) (mvT hZ (wi hw 277 rfl)) (notFace_of_selects (args := #[]) (mvT hZ (wi hw 279 rfl))) (mvT hZ (wi hw 279 rfl)) (mvT hZ (wi hw 278 rfl)) (by decide) (backOf (W := 2) (rm_Bap l Z a0 hw [] G1 a1298 t_1334 kt_1334 0 ([] : List Value) nm nb knb 2 nv_ ndd T1334.heap h0.size Z1367 (O2) (P5) f1364 fq1334_0 fq1334_1 fq1334_2 fq1334_3 f1353 f1354 f1355 f1356 (by decide) (by decide) (by first | decide | (simp only [own_take_len, List.length_append, List.length_nil]; decide)) (by first | decide | (simp only [own_take_len, List.length_append, List.length_nil]; decide)) (by decide) (ge1306) (ge1344) (ne1341) (ne1304) (ne1303) ((Ne.symm ne1337)) (ne1342) Old1365) hZ (wi hw 280 rfl) (wi hw 260 rfl) (by decide) (by decide)) q1370a q1370c (g := (mkF m 32 #[vR th, vR fd, vR ky] [(.ref nm), (.ref a1298), (.ref a1263), (.ref a1263)])) rfl (by rw [hml]; rfl) (Steps.refl _) (argsL := [(.ref nm)]) (rest := [(.ref a1263), (.ref a1263)]) (lenOf pd__Ljava_lang_String__Ljava_lang_StringBuilder_ rfl) rfl (by show 2 * 0 + _ ≤ _; exact Nat.le_of_eq rfl) (hb hby d52_32) (fun _ _ => ⟨rfl, e1369, (by decide : 3 + 0 ≤ _), (by decide : 26 + 0 ≤ _)⟩)
 dsimp only [Pt.U, Pt.locs, Pt.cells, Pt.slots] at X1370 l1370 y1370 z1370 st1370 hQ1370
 subst l1370 y1370 z1370
 obtain ⟨rfl, NQ1370, K1370, fq1370_0, fq1370_1, fq1370_2, fq1370_3⟩ := hQ1370
 have N1371 := Fr.app N1335 NQ1370
 have f1374 := f1347.keep K1370
 have f1375 := f1348.keep K1370 (ninS ne1301 (ninS ne1339 nin0))
 have f1376 := f1349.keep K1370
 have f1377 := f1350.keep K1370 (ninS ne1302 (ninS ne1340 nin0))
 have f1378 := f1351.keep K1370 (ninS ne1302 (ninS ne1340 nin0))
 have f1379 := f1352.keep K1370 (ninS ne1300 (ninS ne1338 nin0))
 have f1384 := f1357.keep K1370
 have f1385 := f1358.keep K1370 (ninS ne1299 (ninS ne1336 nin0))
 have f1386 := f1359.keep K1370 (ninS ne1299 (ninS ne1336 nin0))
 have f1387 := f1360.keep K1370 (ninS ne1299 (ninS ne1336 nin0))
 have f1388 := f1361.keep K1370 (ninS ne1299 (ninS ne1336 nin0))
 have f1389 := f1362.keep K1370 (ninS ne1299 (ninS ne1336 nin0))
 have f1390 := f1363.keep K1370 (ninS ne1299 (ninS ne1336 nin0))
 have f1391 := f1364.keep K1370
 have Old1392 := Old1365.keep K1370 (allS ge1306 (allS ge1344 all0))
 have Kp1393 : Keep h0 T1370.heap [] := Kp1366.trans K1370 (allS (Or.inr (Nat.le_trans Kp1287.1 (Nat.le_of_eq g1298.symm))) (allS (Or.inr (Nat.le_trans Kp1330.1 pq1334_0)) all0))
 have Z1394 := Nat.le_trans Z1367 K1370.1
 have hk1395 := Nat.le_trans hk1368 K1370.1
 refine Rch.st (fun _ k => st1370.trans k) ?_
 show Rch p e below T1370 (mkF m 35 #[vR th, vR fd, vR ky] [(.ref a1298), (.ref a1263), (.ref a1263)]) _
 obtain ⟨a1396, T1396, h1396, k1396, b1396, kc1396, X1396, e1396, E1396, hS1396, hk1396, hZ1396, hown1396, Ex1396, Fc1396, Fv1396, Va1396, lt1396, lu1396, I1396, Li1396, st1396⟩ := ldcSVL (s := s) (vm0 := s.vm) X1370 hx hZ hown (wi hw 323 rfl) (fun d hd => hw d ((by decide +kernel : ∀ d ∈ Bundle.stringAtoms, d ∈ tables_1) d hd)) (rfl : T1370.heap = T1370.heap) hS0 hk1395 (by rw [hh]; exact N1371) hkeep hI (by decide) H131 hcw (vs := [(.int (46 : Int32))]) (z := (1 : Int32)) ⟨by decide, by decide⟩ (by decide) (by decide) (g := (mkF m 35 #[vR th, vR fd, vR ky] [(.ref a1298), (.ref a1263), (.ref a1263)])) rfl (hb hby d52_35) (n := 4) (by decide) (by decide) (by decide) (by decide)
 have f1400 := f1374.ext E1396
 have f1401 := f1375.ext E1396
 have f1402 := f1376.ext E1396
 have f1403 := f1377.ext E1396
 have f1404 := f1378.ext E1396
 have f1405 := f1379.ext E1396
 have f1410 := f1384.ext E1396
 have f1411 := f1385.ext E1396
 have f1412 := f1386.ext E1396
 have f1413 := f1387.ext E1396
 have f1414 := f1388.ext E1396
 have f1415 := f1389.ext E1396
 have f1416 := f1390.ext E1396
 have f1417 := f1391.ext E1396
 have f1418 := fq1370_0.ext E1396
 have f1419 := fq1370_1.ext E1396
 have f1420 := fq1370_2.ext E1396
 have f1421 := fq1370_3.ext E1396
 have Old1422 := Old1392.ext E1396
 have Z1423 := Nat.le_trans Z1394 E1396.1
 have Kp1424 : Keep h0 h1396 [] := Kp1393.ext E1396
 refine Rch.st (fun _ k => st1396 _ k) ?_
 show Rch p e below T1396 (mkF m 37 #[vR th, vR fd, vR ky] [(.ref a1396), (.ref a1298), (.ref a1263), (.ref a1263)]) _
 have ne1425 : a1396 ≠ a1298 := ne_exa Ex1396 f1417 (by decide)
 have ne1426 : b1396 ≠ a1298 := Ne.symm (Exa.neArv f1417 Va1396 (wi hw 259 rfl))
 have ne1427 : a1396 ≠ t_1334 := Exa.neArv Ex1396 f1421 (wi hw 6 rfl)
 have ne1428 : b1396 ≠ t_1334 := own_neLen Va1396 f1421 (by decide)
 obtain ⟨cq1429, kq1429, q1429a, q1429b, q1429c⟩ := isOf hZ1396 e1396 f1417
 obtain ⟨_, _, ⟨T1429, L1429, k1429, n1429⟩, -, X1429, ⟨Lc1429, hQ1429, l1429, y1429, z1429⟩, st1429⟩ := X1396.virtualBack hx (y := y_17) (z := y_17) hown1396 (mvT hZ1396 (wi hw 276 rfl)) (mvT hZ1396 (wi hw 277 rfl)) (notFace_of_selects (args := #[]) (mvT hZ1396 (wi hw 279 rfl))) (mvT hZ1396 (wi hw 279 rfl)) (mvT hZ1396 (wi hw 278 rfl)) (by decide) (backOf (W := 2) (rm_Bap l Z a0 hw [] G1 a1298 t_1334 kt_1334 ((0 : Int32) + (2 : Int32)) (([] : List Value) ++ own_take nv_ ndd (2 : Int32).toNatClampNeg) a1396 b1396 kc1396 1 ([(.int 46)]) (.int 0) h1396 h0.size Z1423 (O2) (P5) f1417 f1418 f1419 f1420 f1421 Ex1396 Fc1396 Fv1396 Va1396 (by decide) (by decide) (by first | decide | (simp only [own_take_len, List.length_append, List.length_nil]; decide)) (by first | decide | (simp only [own_take_len, List.length_append, List.length_nil]; decide)) (by decide) (ge1306) (ge1344) (ne1428) (ne1425) (ne1426) ((Ne.symm ne1337)) (ne1427) Old1422) hZ1396 (wi hw 280 rfl) (wi hw 260 rfl) (by decide) (by decide)) q1429a q1429c (g := (mkF m 37 #[vR th, vR fd, vR ky] [(.ref a1396), (.ref a1298), (.ref a1263), (.ref a1263)])) rfl (by rw [hml]; rfl) (Steps.refl _) (argsL := [(.ref a1396)]) (rest := [(.ref a1263), (.ref a1263)]) (lenOf pd__Ljava_lang_String__Ljava_lang_StringBuilder_ rfl) rfl (by show 2 * 0 + _ ≤ _; exact Nat.le_of_eq rfl) (hb hby d52_37) (fun _ _ => ⟨rfl, e1396, (by decide : 5 + 0 ≤ _), (by decide : 34 + 0 ≤ _)⟩)
 dsimp only [Pt.U, Pt.locs, Pt.cells, Pt.slots] at X1429 l1429 y1429 z1429 st1429 hQ1429
 subst l1429 y1429 z1429
 obtain ⟨rfl, NQ1429, K1429, fq1429_0, fq1429_1, fq1429_2, fq1429_3⟩ := hQ1429
 have N1430 := Fr.app N1371 NQ1429
 have f1433 := f1400.keep K1429
 have f1434 := f1401.keep K1429 (ninS ne1301 (ninS ne1339 nin0))
 have f1435 := f1402.keep K1429
 have f1436 := f1403.keep K1429 (ninS ne1302 (ninS ne1340 nin0))
 have f1437 := f1404.keep K1429 (ninS ne1302 (ninS ne1340 nin0))
 have f1438 := f1405.keep K1429 (ninS ne1300 (ninS ne1338 nin0))
 have f1443 := f1410.keep K1429
 have f1444 := f1411.keep K1429 (ninS ne1299 (ninS ne1336 nin0))
 have f1445 := f1412.keep K1429 (ninS ne1299 (ninS ne1336 nin0))
 have f1446 := f1413.keep K1429 (ninS ne1299 (ninS ne1336 nin0))
 have f1447 := f1414.keep K1429 (ninS ne1299 (ninS ne1336 nin0))
 have f1448 := f1415.keep K1429 (ninS ne1299 (ninS ne1336 nin0))
 have f1449 := f1416.keep K1429 (ninS ne1299 (ninS ne1336 nin0))
 have f1450 := f1417.keep K1429
 have f1451 := Ex1396.keep K1429
 have f1452 := Fc1396.keep K1429 (ninS ne1425 (ninS ne1427 nin0))
 have f1453 := Fv1396.keep K1429 (ninS ne1425 (ninS ne1427 nin0))
 have f1454 := Va1396.keep K1429 (ninS ne1426 (ninS ne1428 nin0))
 have Old1455 := Old1422.keep K1429 (allS ge1306 (allS ge1344 all0))
 have Kp1456 : Keep h0 T1429.heap [] := Kp1424.trans K1429 (allS (Or.inr (Nat.le_trans Kp1287.1 (Nat.le_of_eq g1298.symm))) (allS (Or.inr (Nat.le_trans Kp1330.1 pq1334_0)) all0))
 have Z1457 := Nat.le_trans Z1423 K1429.1
 have hk1458 := Nat.le_trans hk1396 K1429.1
 refine Rch.st (fun _ k => st1429.trans k) ?_
 show Rch p e below T1429 (mkF m 40 #[vR th, vR fd, vR ky] [(.ref a1298), (.ref a1263), (.ref a1263)]) _
 refine w_aloadN (pc' := 41) X1429 hx hby d52_40 rfl rfl rfl ?_
 obtain ⟨cq1459, kq1459, q1459a, q1459b, q1459c⟩ := isOf hZ1396 (rfl : T1429.heap = T1429.heap) f1433
 obtain ⟨_, _, ⟨T1459, L1459, k1459, n1459⟩, -, X1459, ⟨Lc1459, hQ1459, l1459, y1459, z1459⟩, st1459⟩ := X1429.virtualBack hx (y := y_40) (z := y_40) hown1396 (mvT hZ1396 (wi hw 199 rfl)) (mvT hZ1396 (wi hw 200 rfl)) (notFace_of_selects (args := #[]) (mvT hZ1396 (wi hw 202 rfl))) (mvT hZ1396 (wi hw 202 rfl)) (mvT hZ1396 (wi hw 201 rfl)) (by decide) (backOf (W := 3) (rm_nm l Z a0 hw [] fd fs T1429.heap h0.size Z1457 f1434) hZ1396 (wi hw 203 rfl) (wi hw 109 rfl) (by decide) (by decide)) q1459a q1459c (g := (mkF m 41 #[vR th, vR fd, vR ky] [(.ref fd), (.ref a1298), (.ref a1263), (.ref a1263)])) rfl (by rw [hml]; rfl) (Steps.refl _) (argsL := []) (rest := [(.ref a1298), (.ref a1263), (.ref a1263)]) (lenOf pd___Ljava_lang_String_ rfl) rfl (by show 2 * 0 + _ ≤ _; exact Nat.le_of_eq rfl) (hb hby d52_41) (fun _ _ => ⟨rfl, (rfl : T1429.heap = T1429.heap), (by decide : 5 + 0 ≤ _), (by decide : 34 + 0 ≤ _)⟩)
 dsimp only [Pt.U, Pt.locs, Pt.cells, Pt.slots] at X1459 l1459 y1459 z1459 st1459 hQ1459
 subst l1459 y1459 z1459
 obtain ⟨rfl, NQ1459, K1459⟩ := hQ1459
 have N1460 := Fr.app N1430 NQ1459
 refine Rch.st (fun _ k => st1459.trans k) ?_
 show Rch p e below T1459 (mkF m 44 #[vR th, vR fd, vR ky] [(.ref fs), (.ref a1298), (.ref a1263), (.ref a1263)]) _
 obtain ⟨cq1461, kq1461, q1461a, q1461b, q1461c⟩ := isOf hZ1396 K1459 f1450
 obtain ⟨_, _, ⟨T1461, L1461, k1461, n1461⟩, -, X1461, ⟨Lc1461, hQ1461, l1461, y1461, z1461⟩, st1461⟩ := X1459.virtualBack hx (y := y_17) (z := y_17) hown1396 (mvT hZ1396 (wi hw 276 rfl)) (mvT hZ1396 (wi hw 277 rfl)) (notFace_of_selects (args := #[]) (mvT hZ1396 (wi hw 279 rfl))) (mvT hZ1396 (wi hw 279 rfl)) (mvT hZ1396 (wi hw 278 rfl)) (by decide) (backOf (W := 2) (rm_Bap l Z a0 hw [] G1 a1298 t_1334 kt_1334 (((0 : Int32) + (2 : Int32)) + (1 : Int32)) ((([] : List Value) ++ own_take nv_ ndd (2 : Int32).toNatClampNeg) ++ own_take ([(.int 46)]) (.int 0) (1 : Int32).toNatClampNeg) fs fb kfb 2 fv fdd T1429.heap h0.size Z1457 (O2) (P5) f1450 fq1429_0 fq1429_1 fq1429_2 fq1429_3 f1435 f1436 f1437 f1438 (by decide) (by decide) (by first | decide | (simp only [own_take_len, List.length_append, List.length_nil]; decide)) (by first | decide | (simp only [own_take_len, List.length_append, List.length_nil]; decide)) (by decide) (ge1306) (ge1344) (ne1338) (ne1302) (ne1300) ((Ne.symm ne1337)) (ne1340) Old1455) hZ1396 (wi hw 280 rfl) (wi hw 260 rfl) (by decide) (by decide)) q1461a q1461c (g := (mkF m 44 #[vR th, vR fd, vR ky] [(.ref fs), (.ref a1298), (.ref a1263), (.ref a1263)])) rfl (by rw [hml]; rfl) (Steps.refl _) (argsL := [(.ref fs)]) (rest := [(.ref a1263), (.ref a1263)]) (lenOf pd__Ljava_lang_String__Ljava_lang_StringBuilder_ rfl) rfl (by show 2 * 0 + _ ≤ _; exact Nat.le_of_eq rfl) (hb hby d52_44) (fun _ _ => ⟨rfl, K1459, (by decide : 5 + 0 ≤ _), (by decide : 34 + 0 ≤ _)⟩)
 dsimp only [Pt.U, Pt.locs, Pt.cells, Pt.slots] at X1461 l1461 y1461 z1461 st1461 hQ1461
 subst l1461 y1461 z1461
 obtain ⟨rfl, NQ1461, K1461, fq1461_0, fq1461_1, fq1461_2, fq1461_3⟩ := hQ1461
 have N1462 := Fr.app N1460 NQ1461
 have f1475 := f1443.keep K1461
 have f1476 := f1444.keep K1461 (ninS ne1299 (ninS ne1336 nin0))
 have f1477 := f1445.keep K1461 (ninS ne1299 (ninS ne1336 nin0))
 have f1478 := f1446.keep K1461 (ninS ne1299 (ninS ne1336 nin0))
 have f1479 := f1447.keep K1461 (ninS ne1299 (ninS ne1336 nin0))
 have f1480 := f1448.keep K1461 (ninS ne1299 (ninS ne1336 nin0))
 have f1481 := f1449.keep K1461 (ninS ne1299 (ninS ne1336 nin0))
 have f1482 := f1450.keep K1461
 have f1483 := f1451.keep K1461
 have f1484 := f1452.keep K1461 (ninS ne1425 (ninS ne1427 nin0))
 have f1485 := f1453.keep K1461 (ninS ne1425 (ninS ne1427 nin0))
 have f1486 := f1454.keep K1461 (ninS ne1426 (ninS ne1428 nin0))
 have Old1487 := Old1455.keep K1461 (allS ge1306 (allS ge1344 all0))
 have Kp1488 : Keep h0 T1461.heap [] := Kp1456.trans K1461 (allS (Or.inr (Nat.le_trans Kp1287.1 (Nat.le_of_eq g1298.symm))) (allS (Or.inr (Nat.le_trans Kp1330.1 pq1334_0)) all0))
 have Z1489 := Nat.le_trans Z1457 K1461.1
 have hk1490 := Nat.le_trans hk1458 K1461.1
 refine Rch.st (fun _ k => st1461.trans k) ?_
 show Rch p e below T1461 (mkF m 47 #[vR th, vR fd, vR ky] [(.ref a1298), (.ref a1263), (.ref a1263)]) _
 obtain ⟨cq1491, kq1491, q1491a, q1491b, q1491c⟩ := isOf hZ1396 (rfl : T1461.heap = T1461.heap) f1482
 obtain ⟨_, _, ⟨T1491, L1491, k1491, n1491⟩, -, X1491, ⟨Lc1491, hQ1491, l1491, y1491, z1491⟩, st1491⟩ := X1461.virtualBack hx (y := y_24) (z := y_24) hown1396 (mvT hZ1396 (wi hw 324 rfl)) (mvT hZ1396 (wi hw 325 rfl)) (notFace_of_selects (args := #[]) (mvT hZ1396 (wi hw 327 rfl))) (mvT hZ1396 (wi hw 327 rfl)) (mvT hZ1396 (wi hw 326 rfl)) (by decide) (backOf (W := 2) (rm_ts l Z a0 hw [] G1 a1298 t_1334 kt_1334 ((((0 : Int32) + (2 : Int32)) + (1 : Int32)) + (2 : Int32)) (((([] : List Value) ++ own_take nv_ ndd (2 : Int32).toNatClampNeg) ++ own_take ([(.int 46)]) (.int 0) (1 : Int32).toNatClampNeg) ++ own_take fv fdd (2 : Int32).toNatClampNeg) T1461.heap h0.size Z1489 (O2) (P5) f1482 fq1461_0 fq1461_1 fq1461_2 fq1461_3 (by decide) (by decide) (by decide) (by decide) (by decide) Old1487) hZ1396 (wi hw 328 rfl) (wi hw 260 rfl) (by decide) (by decide)) q1491a q1491c (g := (mkF m 47 #[vR th, vR fd, vR ky] [(.ref a1298), (.ref a1263), (.ref a1263)])) rfl (by rw [hml]; rfl) (Steps.refl _) (argsL := []) (rest := [(.ref a1263), (.ref a1263)]) (lenOf pd___Ljava_lang_String_ rfl) rfl (by show 2 * 0 + _ ≤ _; exact Nat.le_of_eq rfl) (hb hby d52_47) (fun _ _ => ⟨rfl, (rfl : T1461.heap = T1461.heap), (by decide : 5 + 2 ≤ _), (by decide : 34 + 20 ≤ _)⟩)
 dsimp only [Pt.U, Pt.locs, Pt.cells, Pt.slots] at X1491 l1491 y1491 z1491 st1491 hQ1491
 subst l1491 y1491 z1491
 obtain ⟨ra_1491, t_1491, kt_1491, rfl, NQ1491, K1491, pq1491_0, pq1491_1, fq1491_0, fq1491_1, fq1491_2, fq1491_3⟩ := hQ1491
 have N1492 := Fr.app N1462 NQ1491
 have ne1493 := nlt f1475.lt pq1491_0
 have ne1505 := nlt f1475.lt pq1491_1
 have f1529 := f1475.keep K1491
 have f1530 := f1476.keep K1491 nin0
 have f1531 := f1477.keep K1491 nin0
 have f1532 := f1478.keep K1491 nin0
 have f1533 := f1479.keep K1491 nin0
 have f1534 := f1480.keep K1491 nin0
 have f1535 := f1481.keep K1491 nin0
 have f1537 := f1483.keep K1491
 have f1538 := f1484.keep K1491 nin0
 have f1539 := f1485.keep K1491 nin0
 have f1540 := f1486.keep K1491 nin0
 have Old1545 := Old1487.keep K1491 all0
 have Kp1546 : Keep h0 T1491.heap [] := Kp1488.trans K1491 all0
 have Z1547 := Nat.le_trans Z1489 K1491.1
 have hk1548 := Nat.le_trans hk1490 K1491.1
 refine Rch.st (fun _ k => st1491.trans k) ?_
 show Rch p e below T1491 (mkF m 50 #[vR th, vR fd, vR ky] [(.ref ra_1491), (.ref a1263), (.ref a1263)]) _
 refine w_aconstNull (pc' := 51) X1491 hx hby d52_50 rfl ?_
 refine w_aconstNull (pc' := 52) X1491 hx hby d52_51 rfl ?_
 refine w_aloadN (pc' := 53) X1491 hx hby d52_52 rfl rfl rfl ?_
 obtain ⟨tv1549, f1550⟩ : ∃ tv, Arv Z T1491.heap t_1491 kt_1491 .byte (5 : Int32) tv (.int (0 : Int32)) := by have z := fq1491_3; rw [show ((((0 : Int32) + (2 : Int32)) + (1 : Int32)) + (2 : Int32)) = (5 : Int32) from by decide] at z; exact ⟨_, z⟩
 have ne1551 : a1396 ≠ a1263 := ne_exa f1537 f1529 (by decide)
 have ne1552 : b1396 ≠ a1263 := Ne.symm (Exa.neArv f1529 f1540 (wi hw 35 rfl))
 obtain ⟨_, _, ⟨T1553, L1553, k1553, n1553⟩, -, X1553, ⟨Lc1553, hQ1553, l1553, y1553, z1553⟩, st1553⟩ := X1491.specialBack hx (y := y_36) rfl hown1396 (mvT hZ1396 (wi hw 40 rfl)) (mvT hZ1396 (wi hw 41 rfl)) (mvT hZ1396 (wi hw 42 rfl)) (by decide) (backOf (W := 1) (rm_v4 l Z a0 hw [] G6 a1263 ra_1491 .null .null (.ref th) T1491.heap h0.size Z1547 (O6) f1529 f1530 f1531 f1532 f1533 f1534 f1535 (ge1270) (rfl) (rfl) (rfl) Old1545) hZ1396 (wi hw 42 rfl) (wi hw 36 rfl) (by decide) (by decide)) (g := (mkF m 53 #[vR th, vR fd, vR ky] [(.ref th), .null, .null, (.ref ra_1491), (.ref a1263), (.ref a1263)])) rfl (by rw [hml]; rfl) (Steps.refl _) (a := a1263) (argsL := [(.ref ra_1491), .null, .null, (.ref th)]) (rest := [(.ref a1263)]) (lenOf pd__Ljava_lang_String_Lcom_example_mandoline_mandoline_ClangNode_Ljava_lang_String_Lcom_example_mandoline_mandoline_Variable__V rfl) rfl (by show 2 * 0 + _ ≤ _; exact Nat.le_of_eq rfl) (hb hby d52_53) (fun _ _ => ⟨rfl, (rfl : T1491.heap = T1491.heap), (by decide : 7 + 1 ≤ _), (by decide : 54 + 12 ≤ _)⟩)
 dsimp only [Pt.U, Pt.locs, Pt.cells, Pt.slots] at X1553 l1553 y1553 z1553 st1553 hQ1553
 subst l1553 y1553 z1553
 obtain ⟨m2_1553, rfl, NQ1553, K1553, pq1553_0, fq1553_0, fq1553_1, fq1553_2, fq1553_3, fq1553_4, fq1553_5, fq1553_6, fq1553_7, fq1553_8, fq1553_9, fq1553_10, fq1553_11, fq1553_12⟩ := hQ1553
 have N1554 := Fr.app N1492 NQ1553
 have f1581 := f1529.keep K1553
 have f1583 := f1537.keep K1553
 have f1584 := f1538.keep K1553 (ninS ne1551 nin0)
 have f1585 := f1539.keep K1553 (ninS ne1551 nin0)
 have f1586 := f1540.keep K1553 (ninS ne1552 nin0)
 have f1591 := fq1491_0.keep K1553
 have f1592 := fq1491_1.keep K1553 (ninS (Ne.symm ne1493) nin0)
 have f1593 := fq1491_2.keep K1553 (ninS (Ne.symm ne1493) nin0)
 have f1594 := f1550.keep K1553 (ninS (Ne.symm ne1505) nin0)
 have Kp1596 : Keep h0 T1553.heap [] := Kp1546.trans K1553 (allS (Or.inr (Nat.le_trans K00.1 (Nat.le_of_eq g1263.symm))) all0)
 have hk1598 := Nat.le_trans hk1548 K1553.1
 refine Rch.st (fun _ k => st1553.trans k) ?_
 show Rch p e below T1553 (mkF m 56 #[vR th, vR fd, vR ky] [(.ref a1263)]) _
 exact Rch.retVW X1553 hx hS1396 (by rw [(rfl : T1553.heap = T1553.heap)]; exact hk1598) Bd.returns rfl (Or.inr (Or.inr (Or.inr (Or.inr ⟨rfl, rfl, rfl⟩)))) (hb hby d52_56) (by rw [(rfl : T1553.heap = T1553.heap)]; exact ⟨a1263, m2_1553, ra_1491, t_1491, kt_1491, tv1549, a1396, b1396, kc1396, rfl, (own_Fr Z0 N1554), Kp1596, (Nat.le_trans K00.1 (Nat.le_of_eq g1263.symm)), (Nat.le_trans Kp1546.1 pq1553_0), (Nat.le_trans Kp1488.1 pq1491_0), (Nat.le_trans Kp1488.1 pq1491_1), f1581, fq1553_0, fq1553_1, fq1553_3, fq1553_5, fq1553_6, fq1553_7, fq1553_8, fq1553_9, fq1553_10, fq1553_11, fq1553_12, f1591, f1592, f1593, f1594, f1583, f1584, f1585, f1586, own_ib_mono (own_ib (s := s.setVm T1396.vm) I1396 X1553.warmed) (by decide), own_lit (s := s) (vm := T1396.vm) Li1396 X1553.warmed.wide⟩) (by decide) (by decide)

theorem ef_rm_ci_n1 (m : MethodId) (G1 : Int32) (G6 : Addr) (th : Addr) (nm : Addr) (fd : Addr) (fs : Addr) (fb : Addr) (kfb : ClassId) (fv : List Value) (fdd : Value) (nb : Addr) (knb : ClassId) (nv_ : List Value) (ndd : Value) (ky : Addr) (kb : Addr) (kkb : ClassId) (b0 : Int32) (b1 : Int32) (hv : Int32) (hz : Int32) (mp : Addr) (fo : Addr) (cK : ClassId)  : entryFrame m #[(.ref mp), (.ref ky), (.ref fo)] 13 = mkF m 0 #[vR mp, vR ky, vR fo, U, U, U, U, U, U, U, U, U, U] [] := by  first | (simp [entryFrame, mkF, argsToLocals, Value.category, maxLocals]; done) | rfl
def Q_rm_ci_n1 (Z : State) (G1 : Int32) (G6 : Addr) (th : Addr) (nm : Addr) (fd : Addr) (fs : Addr) (fb : Addr) (kfb : ClassId) (fv : List Value) (fdd : Value) (nb : Addr) (knb : ClassId) (nv_ : List Value) (ndd : Value) (ky : Addr) (kb : Addr) (kkb : ClassId) (b0 : Int32) (b1 : Int32) (hv : Int32) (hz : Int32) (mp : Addr) (fo : Addr) (cK : ClassId) (h0 : Heap) (n0 : Nat) (v : Option Value) (h : Heap) (vm : Vm) (L : List Loc) : Prop := ∃ (nv : Addr) (m2 : Addr) (ns : Addr) (ts : Addr) (kts : ClassId) (tv : List Value) (sa : Addr) (sbb : Addr) (ksb : ClassId) (x2 : Int32) (y2 : Int32), (v = some (.ref nv)) ∧ (Fr n0 L) ∧ (Keep h0 h [mp, ky]) ∧ (h0.size ≤ nv) ∧ (h0.size ≤ m2) ∧ (h0.size ≤ ns) ∧ (h0.size ≤ ts) ∧ (Exa Z h nv "com/example/mandoline/mandoline/Variable") ∧ (Fld Z h nv "com/example/mandoline/mandoline/Variable" "fields" "Ljava/util/Map;" (.ref m2)) ∧ (Fld Z h nv "com/example/mandoline/mandoline/Variable" "name" "Ljava/lang/String;" (.ref ns)) ∧ (Fld Z h nv "com/example/mandoline/mandoline/Variable" "containing" "Lcom/example/mandoline/mandoline/Variable;" (.ref th)) ∧ (Exa Z h m2 "java/util/LinkedHashMap") ∧ (Fld Z h m2 "java/util/HashMap" "table" "[Ljava/util/HashMap$Node;" .null) ∧ (Fld Z h m2 "java/util/HashMap" "size" "I" (.int (0 : Int32))) ∧ (Fld Z h m2 "java/util/HashMap" "modCount" "I" (.int (0 : Int32))) ∧ (Fld Z h m2 "java/util/HashMap" "threshold" "I" (.int (0 : Int32))) ∧ (Fld Z h m2 "java/util/LinkedHashMap" "putMode" "I" (.int (0 : Int32))) ∧ (Fld Z h m2 "java/util/LinkedHashMap" "head" "Ljava/util/LinkedHashMap$Entry;" .null) ∧ (Fld Z h m2 "java/util/LinkedHashMap" "tail" "Ljava/util/LinkedHashMap$Entry;" .null) ∧ (Exa Z h ns "java/lang/String") ∧ (Fld Z h ns "java/lang/String" "coder" "B" (.int (0 : Int32))) ∧ (Fld Z h ns "java/lang/String" "value" "[B" (.ref ts)) ∧ (Arv Z h ts kts .byte (5 : Int32) tv (.int (0 : Int32))) ∧ (Exa Z h sa "java/lang/String") ∧ (Fld Z h sa "java/lang/String" "coder" "B" (.int (0 : Int32))) ∧ (Fld Z h sa "java/lang/String" "value" "[B" (.ref sbb)) ∧ (Arv Z h sbb ksb .byte (1 : Int32) [(.int (46 : Int32))] (.int (0 : Int32))) ∧ (Fld Z h ky "java/lang/String" "coder" "B" (.int (0 : Int32))) ∧ (Fld Z h ky "java/lang/String" "value" "[B" (.ref kb)) ∧ (Fld Z h ky "java/lang/String" "hash" "I" (.int x2)) ∧ (Fld Z h ky "java/lang/String" "hashIsZero" "Z" (.int y2)) ∧ (IB Z vm (["."] : List String)) ∧ (Lit (Z.setVm vm) "com/example/mandoline/mandoline/Variable" 131 sa)
set_option maxRecDepth 65536 in
set_option maxHeartbeats 40000000 in
theorem rm_ci_n1 (l : Launch) (Z : State) (a0 : Array Value) (hw : ∀ d ∈ tables_1, d.before a0 Z = true) (ws : List Jvm.Cond) (G1 : Int32) (G6 : Addr) (th : Addr) (nm : Addr) (fd : Addr) (fs : Addr) (fb : Addr) (kfb : ClassId) (fv : List Value) (fdd : Value) (nb : Addr) (knb : ClassId) (nv_ : List Value) (ndd : Value) (ky : Addr) (kb : Addr) (kkb : ClassId) (b0 : Int32) (b1 : Int32) (hv : Int32) (hz : Int32) (mp : Addr) (fo : Addr) (cK : ClassId) (h0 : Heap) (n0 : Nat) (Z0 : n0 ≤ h0.size) (O2 : Sta Z Z.heap "java/lang/String" "COMPACT_STRINGS" "Z" (.int G1)) (P5 : ¬ G1 = 0) (O6 : Sta Z Z.heap "java/util/ImmutableCollections" "EMPTY_LIST" "Ljava/util/ImmutableCollections$ListN;" (.ref G6)) (f3 : Exa Z h0 th "com/example/mandoline/mandoline/Variable") (f4 : Fld Z h0 th "com/example/mandoline/mandoline/Variable" "name" "Ljava/lang/String;" (.ref nm)) (f5 : Exa Z h0 fd "com/example/mandoline/mandoline/Place$Field") (f6 : Fld Z h0 fd "com/example/mandoline/mandoline/Place$Field" "name" "Ljava/lang/String;" (.ref fs)) (f7 : Exa Z h0 fs "java/lang/String") (f8 : Fld Z h0 fs "java/lang/String" "coder" "B" (.int (0 : Int32))) (f9 : Fld Z h0 fs "java/lang/String" "value" "[B" (.ref fb)) (f10 : Arv Z h0 fb kfb .byte (2 : Int32) fv fdd) (f11 : Exa Z h0 nm "java/lang/String") (f12 : Fld Z h0 nm "java/lang/String" "coder" "B" (.int (0 : Int32))) (f13 : Fld Z h0 nm "java/lang/String" "value" "[B" (.ref nb)) (f14 : Arv Z h0 nb knb .byte (2 : Int32) nv_ ndd) (H131 : Jvm.Lit.constHeld Z "com/example/mandoline/mandoline/Variable" 131) (hcw : Jvm.Lit.compactW.before a0 Z = true) (f17 : Exa Z h0 ky "java/lang/String") (f18 : Fld Z h0 ky "java/lang/String" "coder" "B" (.int (0 : Int32))) (f19 : Fld Z h0 ky "java/lang/String" "value" "[B" (.ref kb)) (f20 : Fld Z h0 ky "java/lang/String" "hash" "I" (.int hv)) (f21 : Fld Z h0 ky "java/lang/String" "hashIsZero" "Z" (.int hz)) (f22 : Arv Z h0 kb kkb .byte (2 : Int32) [(.int b0), (.int b1)] (.int (0 : Int32))) (f23 : Exa Z h0 kb "[B") (f24 : Exa Z h0 mp "java/util/LinkedHashMap") (f25 : Fld Z h0 mp "java/util/HashMap" "table" "[Ljava/util/HashMap$Node;" .null) (f26 : Fld Z h0 mp "java/util/HashMap" "size" "I" (.int (0 : Int32))) (f27 : Fld Z h0 mp "java/util/HashMap" "modCount" "I" (.int (0 : Int32))) (f28 : Fld Z h0 mp "java/util/HashMap" "threshold" "I" (.int (0 : Int32))) (f29 : Fld Z h0 mp "java/util/LinkedHashMap" "putMode" "I" (.int (0 : Int32))) (f30 : Fld Z h0 mp "java/util/LinkedHashMap" "head" "Ljava/util/LinkedHashMap$Entry;" .null) (f31 : Fld Z h0 mp "java/util/LinkedHashMap" "tail" "Ljava/util/LinkedHashMap$Entry;" .null) (f32 : Lam h0 fo cK (.ref th) (.ref fd)) (hmd : LamKit.Made Z "com/example/mandoline/mandoline/Variable" own_sg cK) (gm : n0 ≤ mp) (gk : n0 ≤ ky) (nfk : fo ≠ ky) (nfm : fo ≠ mp) (qs1 : fs ≠ ky) (qs2 : nm ≠ ky) (Old0 : OldL Z n0 h0) :
    MetW l Z y_55 c53 13 (some (.object "java/lang/Object")) ws (Rm 8 10 88 120) #[(.ref mp), (.ref ky), (.ref fo)] h0 (fun vm => IB Z vm ([] : List String)) (Q_rm_ci_n1 Z G1 G6 th nm fd fs fb kfb fv fdd nb knb nv_ ndd ky kb kkb b0 b1 hv hz mp fo cK h0 n0) := by
 refine MetFree.of_bodySF (plainFor_of_name pn_java_util_HashMap) hisR ?_
 intro p e s m args below meth c s₁ Bd hml0 hP hK
 obtain ⟨rfl, hZ, hh, hI⟩ := hP
 have hx := Bd.exec
 have hby := Bd.bytes
 have hml : c.maxLocals = 13 := hml0
 have hown : s.vm.findClass "java/util/HashMap" = some m.cls := findClass_of_methodNamed Bd.named
 have X0 : Stand p l e (Rm 8 10 88 120) (s.setVm s.vm) m #[(.ref mp), (.ref ky), (.ref fo)] below meth c s₁ [] 0 0 := Stand.of_body Bd
 have e0 : s₁.heap = h0 := by rw [← hh, Bd.state]; rfl
 have N0 := Fr.nil n0
 have K00 : Keep h0 h0 [mp, ky] := Keep.refl _ _
 have hS0 : s.Since s.vm s.heap.size := (State.WarmedH.refl s).since _
 have hk0 : s.heap.size ≤ h0.size := by rw [hh]; exact Nat.le_refl _
 have hkeep : ∀ (b : Addr) (cl : Cell), Z.heap[b]? = some cl → s.heap[b]? = some cl := by rw [hh]; exact Old0.2.2
 show Rch p e below s₁ (entryFrame m #[(.ref mp), (.ref ky), (.ref fo)] 13) (FinW s (Q_rm_ci_n1 Z G1 G6 th nm fd fs fb kfb fv fdd nb knb nv_ ndd ky kb kkb b0 b1 hv hz mp fo cK h0 n0) 10 88)
 refine Rch.cast (ef_rm_ci_n1 m G1 G6 th nm fd fs fb kfb fv fdd nb knb nv_ ndd ky kb kkb b0 b1 hv hz mp fo cK) ?_
 show Rch p e below s₁ (mkF m 0 #[vR mp, vR ky, vR fo, U, U, U, U, U, U, U, U, U, U] []) _
 refine w_aloadN (pc' := 1) X0 hx hby d53_0 rfl rfl rfl ?_
 refine w_nonnullYes (pc' := 12) X0 hx hby d53_1 rfl (fun q => nomatch q) (by decide) ?_
 refine w_aloadN (pc' := 13) X0 hx hby d53_12 rfl rfl rfl ?_
 obtain ⟨_, _, ⟨T1599, L1599, k1599, n1599⟩, -, X1599, ⟨Lc1599, hQ1599, l1599, y1599, z1599⟩, st1599⟩ := Jvm.LawKit.callS X0 hx (y := y_46) hown (mvT hZ (wi hw 146 rfl)) (mvT hZ (wi hw 147 rfl)) (mvT hZ (wi hw 54 rfl)) (mvT hZ (wi hw 148 rfl)) (by decide) (backOf (W := 0) (rm_hash l Z a0 hw [] G1 ky kb kkb b0 b1 hv hz h0 n0 Z0 (O2) (P5) f17 f18 f19 f20 f21 f22 f23 (gk) Old0) hZ (wi hw 148 rfl) (wi hw 54 rfl) (by decide) (by decide)) (g := (mkF m 13 #[vR mp, vR ky, vR fo, U, U, U, U, U, U, U, U, U, U] [(.ref ky)])) rfl (by rw [hml]; rfl) (argsL := [(.ref ky)]) (rest := []) (lenOf pd__Ljava_lang_Object__I rfl) rfl (by show 2 * 0 + _ ≤ _; exact Nat.le_of_eq rfl) (hb hby d53_13) (fun _ _ => ⟨rfl, e0, (by decide : 0 + 0 ≤ _), (by decide : 0 + 0 ≤ _)⟩)
 dsimp only [Pt.U, Pt.locs, Pt.cells, Pt.slots] at X1599 l1599 y1599 z1599 st1599 hQ1599
 subst l1599 y1599 z1599
 obtain ⟨r_1599, x2_1599, y2_1599, rfl, NQ1599, K1599, pq1599_0, pq1599_1, fq1599_0, fq1599_1, fq1599_2, fq1599_3⟩ := hQ1599
 have N1600 := Fr.app N0 NQ1599
 have f1601 := f3.keep K1599
 have ne1602 : th ≠ ky := ne_exa f3 f17 (by decide)
 have f1603 := f4.keep K1599 (ninS ne1602 nin0)
 have f1604 := f5.keep K1599
 have ne1605 : fd ≠ ky := ne_exa f5 f17 (by decide)
 have f1606 := f6.keep K1599 (ninS ne1605 nin0)
 have f1607 := f7.keep K1599
 have f1608 := f8.keep K1599 (ninS qs1 nin0)
 have f1609 := f9.keep K1599 (ninS qs1 nin0)
 have ne1610 : fb ≠ ky := Ne.symm (Exa.neArv f17 f10 (wi hw 6 rfl))
 have f1611 := f10.keep K1599 (ninS ne1610 nin0)
 have f1612 := f11.keep K1599
 have f1613 := f12.keep K1599 (ninS qs2 nin0)
 have f1614 := f13.keep K1599 (ninS qs2 nin0)
 have ne1615 : nb ≠ ky := Ne.symm (Exa.neArv f17 f14 (wi hw 6 rfl))
 have f1616 := f14.keep K1599 (ninS ne1615 nin0)
 have f1617 := f17.keep K1599
 have f1621 := f24.keep K1599
 have ne1622 : mp ≠ ky := ne_exa f24 f17 (by decide)
 have f1623 := f25.keep K1599 (ninS ne1622 nin0)
 have f1624 := f26.keep K1599 (ninS ne1622 nin0)
 have f1625 := f27.keep K1599 (ninS ne1622 nin0)
 have f1626 := f28.keep K1599 (ninS ne1622 nin0)
 have f1627 := f29.keep K1599 (ninS ne1622 nin0)
 have f1628 := f30.keep K1599 (ninS ne1622 nin0)
 have f1629 := f31.keep K1599 (ninS ne1622 nin0)
 have f1630 := f32.keep K1599 (ninS nfk nin0)
 have Old1631 := Old0.keep K1599 (allS gk all0)
 have Kp1632 : Keep h0 T1599.heap [mp, ky] := K00.trans K1599 (allS (Or.inl (List.mem_of_getElem? (i := 1) rfl)) all0)
 have Z1633 := Nat.le_trans Z0 K1599.1
 have hk1634 := Nat.le_trans hk0 K1599.1
 refine Rch.st (fun _ k => st1599 _ k) ?_
 show Rch p e below T1599 (mkF m 16 #[vR mp, vR ky, vR fo, U, U, U, U, U, U, U, U, U, U] [(.int r_1599)]) _
 refine w_istoreN (pc' := 17) (l' := #[vR mp, vR ky, vR fo, vI r_1599, U, U, U, U, U, U, U, U, U]) X1599 hx hby d53_16 rfl rfl ?_
 refine w_iconst (pc' := 18) (v := 0) X1599 hx hby d53_17 rfl rfl ?_
 refine w_istore (pc' := 20) (l' := #[vR mp, vR ky, vR fo, vI r_1599, U, U, U, U, vI 0, U, U, U, U]) X1599 hx hby d53_18 rfl rfl ?_
 refine w_aconstNull (pc' := 21) X1599 hx hby d53_20 rfl ?_
 refine w_astore (pc' := 23) (l' := #[vR mp, vR ky, vR fo, vI r_1599, U, U, U, U, vI 0, vN, U, U, U]) X1599 hx hby d53_21 rfl rfl rfl ?_
 refine w_aconstNull (pc' := 24) X1599 hx hby d53_23 rfl ?_
 refine w_astore (pc' := 26) (l' := #[vR mp, vR ky, vR fo, vI r_1599, U, U, U, U, vI 0, vN, vN, U, U]) X1599 hx hby d53_24 rfl rfl rfl ?_
 refine w_aloadN (pc' := 27) X1599 hx hby d53_26 rfl rfl rfl ?_
 obtain ⟨T1635, X1635, e1635, st1635⟩ := getF X1599 hx hZ hown (host := "") (Or.inl (wi hw 177 rfl)) Via.refl (rfl : T1599.heap = T1599.heap) f1624 (g := (mkF m 27 #[vR mp, vR ky, vR fo, vI r_1599, U, U, U, U, vI 0, vN, vN, U, U] [(.ref mp)])) rfl rfl (hb hby d53_27)
 refine Rch.st (fun _ k => st1635 _ k) ?_
 show Rch p e below T1635 (mkF m 30 #[vR mp, vR ky, vR fo, vI r_1599, U, U, U, U, vI 0, vN, vN, U, U] [(.int 0)]) _
 refine w_aloadN (pc' := 31) X1635 hx hby d53_30 rfl rfl rfl ?_
 obtain ⟨T1636, X1636, e1636, st1636⟩ := getF X1635 hx hZ hown (host := "") (Or.inl (wi hw 179 rfl)) Via.refl e1635 f1626 (g := (mkF m 31 #[vR mp, vR ky, vR fo, vI r_1599, U, U, U, U, vI 0, vN, vN, U, U] [(.ref mp), (.int 0)])) rfl rfl (hb hby d53_31)
 refine Rch.st (fun _ k => st1636 _ k) ?_
 show Rch p e below T1636 (mkF m 34 #[vR mp, vR ky, vR fo, vI r_1599, U, U, U, U, vI 0, vN, vN, U, U] [(.int 0), (.int 0)]) _
 refine w_icmpNo (pc' := 37) X1636 hx hby d53_34 (XT.ii_gt_f (by decide)) rfl ?_
 refine w_aloadN (pc' := 38) X1636 hx hby d53_37 rfl rfl rfl ?_
 obtain ⟨T1637, X1637, e1637, st1637⟩ := getF X1636 hx hZ hown (host := "") (Or.inl (wi hw 181 rfl)) Via.refl e1636 f1623 (g := (mkF m 38 #[vR mp, vR ky, vR fo, vI r_1599, U, U, U, U, vI 0, vN, vN, U, U] [(.ref mp)])) rfl rfl (hb hby d53_38)
 refine Rch.st (fun _ k => st1637 _ k) ?_
 show Rch p e below T1637 (mkF m 41 #[vR mp, vR ky, vR fo, vI r_1599, U, U, U, U, vI 0, vN, vN, U, U] [.null]) _
 refine w_dup (pc' := 42) X1637 hx hby d53_41 rfl rfl ?_
 refine w_astore (pc' := 44) (l' := #[vR mp, vR ky, vR fo, vI r_1599, vN, U, U, U, vI 0, vN, vN, U, U]) X1637 hx hby d53_42 rfl rfl rfl ?_
 refine w_nullYes (pc' := 56) X1637 hx hby d53_44 (rfl) (by decide) ?_
 refine w_aloadN (pc' := 57) X1637 hx hby d53_56 rfl rfl rfl ?_
 obtain ⟨cq1638, kq1638, q1638a, q1638b, q1638c⟩ := isOf hZ e1637 f1621
 obtain ⟨_, _, ⟨T1638, L1638, k1638, n1638⟩, -, X1638, ⟨Lc1638, hQ1638, l1638, y1638, z1638⟩, st1638⟩ := X1637.virtualBack hx (y := y_48) (z := y_48) hown (mvT hZ (wi hw 183 rfl)) (mvT hZ (wi hw 184 rfl)) (notFace_of_selects (args := #[]) (mvT hZ (wi hw 186 rfl))) (mvT hZ (wi hw 186 rfl)) (mvT hZ (wi hw 185 rfl)) (by decide) (backOf (W := 0) (rm_rs l Z a0 hw [] mp T1599.heap n0 Z1633 f1621 f1623 f1624 f1625 f1626 f1627 f1628 f1629 (gm)) hZ (wi hw 187 rfl) (wi hw 54 rfl) (by decide) (by decide)) q1638a q1638c (g := (mkF m 57 #[vR mp, vR ky, vR fo, vI r_1599, vN, U, U, U, vI 0, vN, vN, U, U] [(.ref mp)])) rfl (by rw [hml]; rfl) (Steps.refl _) (argsL := []) (rest := []) (lenOf pd____Ljava_util_HashMap_Node_ rfl) rfl (by show 2 * 0 + _ ≤ _; exact Nat.le_of_eq rfl) (hb hby d53_57) (fun _ _ => ⟨rfl, e1637, (by decide : 0 + 1 ≤ _), (by decide : 0 + 16 ≤ _)⟩)
 dsimp only [Pt.U, Pt.locs, Pt.cells, Pt.slots] at X1638 l1638 y1638 z1638 st1638 hQ1638
 subst l1638 y1638 z1638
 obtain ⟨t_1638, kt_1638, rfl, NQ1638, K1638, pq1638_0, pq1638_1, fq1638_0, fq1638_1, fq1638_2, fq1638_3, fq1638_4, fq1638_5, fq1638_6, fq1638_7⟩ := hQ1638
 have N1639 := Fr.app N1600 NQ1638
 have ne1645 := nlt f1617.lt pq1638_0
 have ne1646 := nlt f1621.lt pq1638_0
 have ge1650 : n0 ≤ t_1638 := Nat.le_trans Z1633 pq1638_0
 have f1651 := f1601.keep K1638
 have ne1652 : th ≠ mp := ne_exa f1601 f1621 (by decide)
 have f1653 := f1603.keep K1638 (ninS ne1652 nin0)
 have f1654 := f1604.keep K1638
 have ne1655 : fd ≠ mp := ne_exa f1604 f1621 (by decide)
 have f1656 := f1606.keep K1638 (ninS ne1655 nin0)
 have f1657 := f1607.keep K1638
 have ne1658 : fs ≠ mp := ne_exa f1607 f1621 (by decide)
 have f1659 := f1608.keep K1638 (ninS ne1658 nin0)
 have f1660 := f1609.keep K1638 (ninS ne1658 nin0)
 have ne1661 : fb ≠ mp := Ne.symm (Exa.neArv f1621 f1611 (wi hw 45 rfl))
 have f1662 := f1611.keep K1638 (ninS ne1661 nin0)
 have f1663 := f1612.keep K1638
 have ne1664 : nm ≠ mp := ne_exa f1612 f1621 (by decide)
 have f1665 := f1613.keep K1638 (ninS ne1664 nin0)
 have f1666 := f1614.keep K1638 (ninS ne1664 nin0)
 have ne1667 : nb ≠ mp := Ne.symm (Exa.neArv f1621 f1616 (wi hw 45 rfl))
 have f1668 := f1616.keep K1638 (ninS ne1667 nin0)
 have f1669 := f1617.keep K1638
 have f1673 := f1621.keep K1638
 have f1674 := f1630.keep K1638 (ninS nfm nin0)
 have f1675 := fq1599_0.keep K1638 (ninS (Ne.symm ne1622) nin0)
 have f1676 := fq1599_1.keep K1638 (ninS (Ne.symm ne1622) nin0)
 have f1677 := fq1599_2.keep K1638 (ninS (Ne.symm ne1622) nin0)
 have f1678 := fq1599_3.keep K1638 (ninS (Ne.symm ne1622) nin0)
 have Old1679 := Old1631.keep K1638 (allS gm all0)
 have Kp1680 : Keep h0 T1638.heap [mp, ky] := Kp1632.trans K1638 (allS (Or.inl (List.mem_of_getElem? (i := 0) rfl)) all0)
 have Z1681 := Nat.le_trans Z1633 K1638.1
 have hk1682 := Nat.le_trans hk1634 K1638.1
 refine Rch.st (fun _ k => st1638.trans k) ?_
 show Rch p e below T1638 (mkF m 60 #[vR mp, vR ky, vR fo, vI r_1599, vN, U, U, U, vI 0, vN, vN, U, U] [(.ref t_1638)]) _
 refine w_dup (pc' := 61) X1638 hx hby d53_60 rfl rfl ?_
 refine w_astore (pc' := 63) (l' := #[vR mp, vR ky, vR fo, vI r_1599, vR t_1638, U, U, U, vI 0, vN, vN, U, U]) X1638 hx hby d53_61 rfl rfl rfl ?_
 refine Rch.st (fun _ k => own_alen X1638 hx hZ (rfl : T1638.heap = T1638.heap) fq1638_7 rfl rfl (hb hby d53_63) k) ?_
 show Rch p e below T1638 (mkF m 64 #[vR mp, vR ky, vR fo, vI r_1599, vR t_1638, U, U, U, vI 0, vN, vN, U, U] [(.int 16)]) _
 refine w_istore (pc' := 66) (l' := #[vR mp, vR ky, vR fo, vI r_1599, vR t_1638, U, vI 16, U, vI 0, vN, vN, U, U]) X1638 hx hby d53_64 rfl rfl ?_
 refine w_aload (pc' := 68) X1638 hx hby d53_66 rfl rfl rfl ?_
 refine w_iload (pc' := 70) X1638 hx hby d53_68 rfl rfl ?_
 refine w_iconst (pc' := 71) (v := 1) X1638 hx hby d53_70 rfl rfl ?_
 refine w_isub (pc' := 72) X1638 hx hby d53_71 rfl ?_
 refine w_iloadN (pc' := 73) X1638 hx hby d53_72 rfl rfl ?_
 refine w_iand (pc' := 74) X1638 hx hby d53_73 rfl ?_
 refine w_dup (pc' := 75) X1638 hx hby d53_74 rfl rfl ?_
 refine w_istore (pc' := 77) (l' := #[vR mp, vR ky, vR fo, vI r_1599, vR t_1638, U, vI 16, vI (((16 : Int32) - (1 : Int32)) &&& r_1599), vI 0, vN, vN, U, U]) X1638 hx hby d53_75 rfl rfl ?_
 refine Rch.st (fun _ k => own_ldA X1638 hx hZ (rfl : T1638.heap = T1638.heap) fq1638_7 (j := (((16 : Int32) - (1 : Int32)) &&& r_1599)) (own_idx _) (v := .null) (by simp) rfl rfl (hb hby d53_77) k) ?_
 show Rch p e below T1638 (mkF m 78 #[vR mp, vR ky, vR fo, vI r_1599, vR t_1638, U, vI 16, vI (((16 : Int32) - (1 : Int32)) &&& r_1599), vI 0, vN, vN, U, U] [.null]) _
 refine w_dup (pc' := 79) X1638 hx hby d53_78 rfl rfl ?_
 refine w_astore (pc' := 81) (l' := #[vR mp, vR ky, vR fo, vI r_1599, vR t_1638, vN, vI 16, vI (((16 : Int32) - (1 : Int32)) &&& r_1599), vI 0, vN, vN, U, U]) X1638 hx hby d53_79 rfl rfl rfl ?_
 refine w_nullYes (pc' := 194) X1638 hx hby d53_81 (rfl) (by decide) ?_
 refine w_aloadN (pc' := 195) X1638 hx hby d53_194 rfl rfl rfl ?_
 obtain ⟨T1683, X1683, e1683, st1683⟩ := getF X1638 hx hZ hown (host := "") (Or.inl (wi hw 190 rfl)) Via.refl (rfl : T1638.heap = T1638.heap) fq1638_2 (g := (mkF m 195 #[vR mp, vR ky, vR fo, vI r_1599, vR t_1638, vN, vI 16, vI (((16 : Int32) - (1 : Int32)) &&& r_1599), vI 0, vN, vN, U, U] [(.ref mp)])) rfl rfl (hb hby d53_195)
 refine Rch.st (fun _ k => st1683 _ k) ?_
 show Rch p e below T1683 (mkF m 198 #[vR mp, vR ky, vR fo, vI r_1599, vR t_1638, vN, vI 16, vI (((16 : Int32) - (1 : Int32)) &&& r_1599), vI 0, vN, vN, U, U] [(.int 0)]) _
 refine w_istore (pc' := 200) (l' := #[vR mp, vR ky, vR fo, vI r_1599, vR t_1638, vN, vI 16, vI (((16 : Int32) - (1 : Int32)) &&& r_1599), vI 0, vN, vN, vI 0, U]) X1683 hx hby d53_198 rfl rfl ?_
 refine w_aloadN (pc' := 201) X1683 hx hby d53_200 rfl rfl rfl ?_
 refine w_aloadN (pc' := 202) X1683 hx hby d53_201 rfl rfl rfl ?_
 obtain ⟨_, _, ⟨T1684, L1684, k1684, n1684⟩, -, X1684, hSx1684, hgx1684, ⟨Lc1684, hQ1684, l1684, y1684, z1684⟩, st1684⟩ := own_apply X1683 hx hZ hown (xi := y_0) (y := y_1) (wi hw 192 rfl) (wi hw 193 rfl) (mvT hZ (wi hw 194 rfl)) hmd own_hok own_hc0 own_hc1 own_hcl (wi hw 136 rfl) (wi hw 35 rfl) (wi hw 195 rfl) (wi hw 196 rfl) (wi hw 197 rfl) (wi hw 36 rfl) own_hxi own_hy (by decide) (by decide) e1683 f1674 f1651 f1669 (PV := fun vm => IB Z vm ([] : List String)) (rm_lam_n1 l Z a0 hw [] G1 G6 th nm fd fs fb kfb fv fdd nb knb nv_ ndd ky T1638.heap n0 Z1681 (O2) (P5) (O6) f1651 f1653 f1654 f1656 f1657 f1659 f1660 f1662 f1663 f1665 f1666 f1668 (H131) (hcw) Old1679) (fun vm hW => own_ib (s := s.setVm s.vm) hI hW) (fun _ _ _ _ q => by obtain ⟨_, _, _, _, _, _, _, _, _, ee, -⟩ := q; exact ⟨_, ee, rfl⟩) (lenOf pd__Lcom_example_mandoline_mandoline_Place_Field_Ljava_lang_String__Lcom_example_mandoline_mandoline_Variable_ rfl) (lenOf pd__Ljava_lang_Object__Ljava_lang_Object_ rfl) (g := (mkF m 202 #[vR mp, vR ky, vR fo, vI r_1599, vR t_1638, vN, vI 16, vI (((16 : Int32) - (1 : Int32)) &&& r_1599), vI 0, vN, vN, vI 0, U] [(.ref ky), (.ref fo)])) rfl (by rw [hml]; rfl) (rest := []) rfl (hb hby d53_202) (by decide) (by show 2 * 0 + 0 + (2 + 11) + _ ≤ _; decide) (by decide : 1 + 8 ≤ _) (by decide : 16 + 66 ≤ _)
 dsimp only [Pt.U, Pt.locs, Pt.cells, Pt.slots] at X1684 l1684 y1684 z1684 st1684 hQ1684 hSx1684 hgx1684
 subst l1684 y1684 z1684
 have hS1684 := foldS hS0 (by rw [e1683]; exact hk1682) hSx1684 hgx1684
 have hk1684 : T1684.heap.size ≤ T1684.heap.size := Nat.le_refl _
 have hZ1684 : Z.Warmed39 (s.setVm T1684.vm).vm := State.Warmed39.trans (t := s.setVm s.vm) hZ hSx1684.1
 have hown1684 : (s.setVm T1684.vm).vm.findClass "java/util/HashMap" = some m.cls := by rw [show (s.setVm T1684.vm).vm = T1684.vm from rfl, hSx1684.1.alike.findClass]; exact hown
 have X1684w : Stand p l e (Rm 8 10 88 120) (s.setVm T1684.vm) m _ below meth c T1684 _ _ _ := X1684
 obtain ⟨nv_1684, m2_1684, ns_1684, ts_1684, kts_1684, tv_1684, sa_1684, sbb_1684, ksb_1684, rfl, NQ1684, K1684, pq1684_0, pq1684_1, pq1684_2, pq1684_3, fq1684_0, fq1684_1, fq1684_2, fq1684_3, fq1684_4, fq1684_5, fq1684_6, fq1684_7, fq1684_8, fq1684_9, fq1684_10, fq1684_11, fq1684_12, fq1684_13, fq1684_14, fq1684_15, fq1684_16, fq1684_17, fq1684_18, fq1684_19, IQ1684, LQ1684_0⟩ := hQ1684
 have N1685 := Fr.app N1639 NQ1684
 have ne1692 := nlt f1673.lt pq1684_0
 have ne1695 := nlt fq1638_7.lt pq1684_0
 have ne1704 := nlt f1673.lt pq1684_1
 have ne1707 := nlt fq1638_7.lt pq1684_1
 have ne1716 := nlt f1673.lt pq1684_2
 have ne1719 := nlt fq1638_7.lt pq1684_2
 have ne1728 := nlt f1673.lt pq1684_3
 have ne1731 := nlt fq1638_7.lt pq1684_3
 have f1749 := f1673.keep K1684
 have f1751 := f1675.keep K1684 nin0
 have f1752 := f1676.keep K1684 nin0
 have f1753 := f1677.keep K1684 nin0
 have f1754 := f1678.keep K1684 nin0
 have f1755 := fq1638_0.keep K1684 nin0
 have f1756 := fq1638_1.keep K1684 nin0
 have f1757 := fq1638_2.keep K1684 nin0
 have f1758 := fq1638_3.keep K1684 nin0
 have f1759 := fq1638_4.keep K1684 nin0
 have f1760 := fq1638_5.keep K1684 nin0
 have f1761 := fq1638_6.keep K1684 nin0
 have f1762 := fq1638_7.keep K1684 nin0
 have Kp1764 : Keep h0 T1684.heap [mp, ky] := Kp1680.trans K1684 all0
 have Z1765 := Nat.le_trans Z1681 K1684.1
 refine Rch.st (fun _ k => st1684.trans k) ?_
 show Rch p e below T1684 (mkF m 207 #[vR mp, vR ky, vR fo, vI r_1599, vR t_1638, vN, vI 16, vI (((16 : Int32) - (1 : Int32)) &&& r_1599), vI 0, vN, vN, vI 0, U] [(.ref nv_1684)]) _
 refine w_astore (pc' := 209) (l' := #[vR mp, vR ky, vR fo, vI r_1599, vR t_1638, vN, vI 16, vI (((16 : Int32) - (1 : Int32)) &&& r_1599), vI 0, vN, vN, vI 0, vR nv_1684]) X1684w hx hby d53_207 rfl rfl rfl ?_
 refine w_iload (pc' := 211) X1684w hx hby d53_209 rfl rfl ?_
 refine w_aloadN (pc' := 212) X1684w hx hby d53_211 rfl rfl rfl ?_
 obtain ⟨T1766, X1766, e1766, st1766⟩ := getF X1684w hx hZ1684 hown1684 (host := "") (Or.inl (wi hw 190 rfl)) Via.refl (rfl : T1684.heap = T1684.heap) f1757 (g := (mkF m 212 #[vR mp, vR ky, vR fo, vI r_1599, vR t_1638, vN, vI 16, vI (((16 : Int32) - (1 : Int32)) &&& r_1599), vI 0, vN, vN, vI 0, vR nv_1684] [(.ref mp), (.int 0)])) rfl rfl (hb hby d53_212)
 refine Rch.st (fun _ k => st1766 _ k) ?_
 show Rch p e below T1766 (mkF m 215 #[vR mp, vR ky, vR fo, vI r_1599, vR t_1638, vN, vI 16, vI (((16 : Int32) - (1 : Int32)) &&& r_1599), vI 0, vN, vN, vI 0, vR nv_1684] [(.int 0), (.int 0)]) _
 refine w_icmpYes (pc' := 226) X1766 hx hby d53_215 (XT.ii_eq_t (rfl)) (by decide) ?_
 refine w_aload (pc' := 228) X1766 hx hby d53_226 rfl rfl rfl ?_
 refine w_nonnullYes (pc' := 233) X1766 hx hby d53_228 rfl (fun q => nomatch q) (by decide) ?_
 refine w_aload (pc' := 235) X1766 hx hby d53_233 rfl rfl rfl ?_
 refine w_nullYes (pc' := 254) X1766 hx hby d53_235 (rfl) (by decide) ?_
 refine w_aload (pc' := 256) X1766 hx hby d53_254 rfl rfl rfl ?_
 refine w_nullYes (pc' := 275) X1766 hx hby d53_256 (rfl) (by decide) ?_
 refine w_aload (pc' := 277) X1766 hx hby d53_275 rfl rfl rfl ?_
 refine w_iload (pc' := 279) X1766 hx hby d53_277 rfl rfl ?_
 refine w_aloadN (pc' := 280) X1766 hx hby d53_279 rfl rfl rfl ?_
 refine w_iloadN (pc' := 281) X1766 hx hby d53_280 rfl rfl ?_
 refine w_aloadN (pc' := 282) X1766 hx hby d53_281 rfl rfl rfl ?_
 refine w_aload (pc' := 284) X1766 hx hby d53_282 rfl rfl rfl ?_
 refine w_aload (pc' := 286) X1766 hx hby d53_284 rfl rfl rfl ?_
 obtain ⟨cq1767, kq1767, q1767a, q1767b, q1767c⟩ := isOf hZ1684 e1766 f1749
 obtain ⟨_, _, ⟨T1767, L1767, k1767, n1767⟩, -, X1767, ⟨Lc1767, hQ1767, l1767, y1767, z1767⟩, st1767⟩ := X1766.virtualBack hx (y := y_56) (z := y_52) hown1684 (mvT hZ1684 (wi hw 209 rfl)) (mvT hZ1684 (wi hw 210 rfl)) (own_nf (args := #[]) (mvT hZ1684 (wi hw 140 rfl)) rfl) (mvT hZ1684 (wi hw 212 rfl)) (mvT hZ1684 (wi hw 213 rfl)) (by decide) (backOf (W := 2) (rm_nn l Z a0 hw [] mp t_1638 r_1599 ky nv_1684 T1684.heap n0 Z1765 f1749 f1755 f1756 f1757 f1758 f1759 f1760 f1761 (gm)) hZ1684 (wi hw 214 rfl) (wi hw 46 rfl) (by decide) (by decide)) q1767a q1767c (g := (mkF m 286 #[vR mp, vR ky, vR fo, vI r_1599, vR t_1638, vN, vI 16, vI (((16 : Int32) - (1 : Int32)) &&& r_1599), vI 0, vN, vN, vI 0, vR nv_1684] [.null, (.ref nv_1684), (.ref ky), (.int r_1599), (.ref mp), (.int (((16 : Int32) - (1 : Int32)) &&& r_1599)), (.ref t_1638)])) rfl (by rw [hml]; rfl) (Steps.refl _) (argsL := [(.int r_1599), (.ref ky), (.ref nv_1684), .null]) (rest := [(.int (((16 : Int32) - (1 : Int32)) &&& r_1599)), (.ref t_1638)]) (lenOf pd__ILjava_lang_Object_Ljava_lang_Object_Ljava_util_HashMap_Node__Ljava_util_HashMap_Node_ rfl) rfl (by show 2 * 0 + _ ≤ _; exact Nat.le_of_eq rfl) (hb hby d53_286) (fun _ _ => ⟨rfl, e1766, (by decide : 9 + 1 ≤ _), (by decide : 82 + 6 ≤ _)⟩)
 dsimp only [Pt.U, Pt.locs, Pt.cells, Pt.slots] at X1767 l1767 y1767 z1767 st1767 hQ1767
 subst l1767 y1767 z1767
 obtain ⟨en_1767, rfl, NQ1767, K1767, pq1767_0, fq1767_0, fq1767_1, fq1767_2, fq1767_3, fq1767_4, fq1767_5, fq1767_6, fq1767_7⟩ := hQ1767
 have N1768 := Fr.app N1685 NQ1767
 have f1802 := f1749.keep K1767
 have f1804 := f1751.keep K1767 (ninS (Ne.symm ne1622) nin0)
 have f1805 := f1752.keep K1767 (ninS (Ne.symm ne1622) nin0)
 have f1806 := f1753.keep K1767 (ninS (Ne.symm ne1622) nin0)
 have f1807 := f1754.keep K1767 (ninS (Ne.symm ne1622) nin0)
 have f1808 := f1762.keep K1767 (ninS (Ne.symm ne1646) nin0)
 have f1809 := fq1684_0.keep K1767
 have f1810 := fq1684_1.keep K1767 (ninS (Ne.symm ne1692) nin0)
 have f1811 := fq1684_2.keep K1767 (ninS (Ne.symm ne1692) nin0)
 have f1812 := fq1684_3.keep K1767 (ninS (Ne.symm ne1692) nin0)
 have f1813 := fq1684_4.keep K1767
 have f1814 := fq1684_5.keep K1767 (ninS (Ne.symm ne1704) nin0)
 have f1815 := fq1684_6.keep K1767 (ninS (Ne.symm ne1704) nin0)
 have f1816 := fq1684_7.keep K1767 (ninS (Ne.symm ne1704) nin0)
 have f1817 := fq1684_8.keep K1767 (ninS (Ne.symm ne1704) nin0)
 have f1818 := fq1684_9.keep K1767 (ninS (Ne.symm ne1704) nin0)
 have f1819 := fq1684_10.keep K1767 (ninS (Ne.symm ne1704) nin0)
 have f1820 := fq1684_11.keep K1767 (ninS (Ne.symm ne1704) nin0)
 have f1821 := fq1684_12.keep K1767
 have f1822 := fq1684_13.keep K1767 (ninS (Ne.symm ne1716) nin0)
 have f1823 := fq1684_14.keep K1767 (ninS (Ne.symm ne1716) nin0)
 have f1824 := fq1684_15.keep K1767 (ninS (Ne.symm ne1728) nin0)
 have f1825 := fq1684_16.keep K1767
 have ne1826 : sa_1684 ≠ mp := ne_exa fq1684_16 f1749 (by decide)
 have f1827 := fq1684_17.keep K1767 (ninS ne1826 nin0)
 have f1828 := fq1684_18.keep K1767 (ninS ne1826 nin0)
 have ne1829 : sbb_1684 ≠ mp := Ne.symm (Exa.neArv f1749 fq1684_19 (wi hw 45 rfl))
 have f1830 := fq1684_19.keep K1767 (ninS ne1829 nin0)
 have Kp1832 : Keep h0 T1767.heap [mp, ky] := Kp1764.trans K1767 (allS (Or.inl (List.mem_of_getElem? (i := 0) rfl)) all0)
 have Z1833 := Nat.le_trans Z1765 K1767.1
 have hk1834 := Nat.le_trans hk1684 K1767.1
 refine Rch.st (fun _ k => st1767.trans k) ?_
 show Rch p e below T1767 (mkF m 289 #[vR mp, vR ky, vR fo, vI r_1599, vR t_1638, vN, vI 16, vI (((16 : Int32) - (1 : Int32)) &&& r_1599), vI 0, vN, vN, vI 0, vR nv_1684] [(.ref en_1767), (.int (((16 : Int32) - (1 : Int32)) &&& r_1599)), (.ref t_1638)]) _
 obtain ⟨T1835, h1835, X1835, e1835, W1835, st1835⟩ := own_stA X1767 hx hZ1684 (rfl : T1767.heap = T1767.heap) f1808 (pq1638_1) (Ins.of_exa fq1767_0 (wi hw 225 rfl)) (j := (((16 : Int32) - (1 : Int32)) &&& r_1599)) (own_idx _) (g := (mkF m 289 #[vR mp, vR ky, vR fo, vI r_1599, vR t_1638, vN, vI 16, vI (((16 : Int32) - (1 : Int32)) &&& r_1599), vI 0, vN, vN, vI 0, vR nv_1684] [(.ref en_1767), (.int (((16 : Int32) - (1 : Int32)) &&& r_1599)), (.ref t_1638)])) rfl rfl (hb hby d53_289)
 have N1836 := Fr.snoc X1835 N1768 ge1650
 have f1852 := f1802.wr W1835
 have f1854 := f1804.other W1835 (Or.inl ne1645)
 have f1855 := f1805.other W1835 (Or.inl ne1645)
 have f1856 := f1806.other W1835 (Or.inl ne1645)
 have f1857 := f1807.other W1835 (Or.inl ne1645)
 have f1858 := f1809.wr W1835
 have f1859 := f1810.other W1835 (Or.inl (Ne.symm ne1695))
 have f1860 := f1811.other W1835 (Or.inl (Ne.symm ne1695))
 have f1861 := f1812.other W1835 (Or.inl (Ne.symm ne1695))
 have f1862 := f1813.wr W1835
 have f1863 := f1814.other W1835 (Or.inl (Ne.symm ne1707))
 have f1864 := f1815.other W1835 (Or.inl (Ne.symm ne1707))
 have f1865 := f1816.other W1835 (Or.inl (Ne.symm ne1707))
 have f1866 := f1817.other W1835 (Or.inl (Ne.symm ne1707))
 have f1867 := f1818.other W1835 (Or.inl (Ne.symm ne1707))
 have f1868 := f1819.other W1835 (Or.inl (Ne.symm ne1707))
 have f1869 := f1820.other W1835 (Or.inl (Ne.symm ne1707))
 have f1870 := f1821.wr W1835
 have f1871 := f1822.other W1835 (Or.inl (Ne.symm ne1719))
 have f1872 := f1823.other W1835 (Or.inl (Ne.symm ne1719))
 have f1873 := f1824.other W1835 (Ne.symm ne1731)
 have f1874 := f1825.wr W1835
 have ne1875 : sa_1684 ≠ t_1638 := Exa.neArv f1825 f1808 (wi hw 6 rfl)
 have f1876 := f1827.other W1835 (Or.inl ne1875)
 have f1877 := f1828.other W1835 (Or.inl ne1875)
 have ne1878 : sbb_1684 ≠ t_1638 := own_neLen f1830 f1808 (by decide)
 have f1879 := f1830.other W1835 ne1878
 have f1882 := fq1767_2.other W1835 (Or.inl ne1646)
 have f1883 := fq1767_3.other W1835 (Or.inl ne1646)
 have f1886 := fq1767_6.other W1835 (Or.inl ne1646)
 have Z1889 := Nat.le_trans Z1833 (Keep.of_wr W1835).1
 have hk1890 := Nat.le_trans hk1834 (Keep.of_wr W1835).1
 have Kp1891 : Keep h0 h1835 [mp, ky] := Kp1832.wr W1835 (Or.inr (Nat.le_trans Kp1632.1 pq1638_0))
 refine Rch.st (fun _ k => st1835 _ k) ?_
 show Rch p e below T1835 (mkF m 290 #[vR mp, vR ky, vR fo, vI r_1599, vR t_1638, vN, vI 16, vI (((16 : Int32) - (1 : Int32)) &&& r_1599), vI 0, vN, vN, vI 0, vR nv_1684] []) _
 refine w_iload (pc' := 292) X1835 hx hby d53_290 rfl rfl ?_
 refine w_bipush (pc' := 294) (v := 7) X1835 hx hby d53_292 rfl rfl ?_
 refine w_icmpYes (pc' := 304) X1835 hx hby d53_294 (XT.ii_lt_t (by decide)) (by decide) ?_
 refine w_aloadN (pc' := 305) X1835 hx hby d53_304 rfl rfl rfl ?_
 refine w_iload (pc' := 307) X1835 hx hby d53_305 rfl rfl ?_
 refine w_iconst (pc' := 308) (v := 1) X1835 hx hby d53_307 rfl rfl ?_
 refine w_iadd (pc' := 309) X1835 hx hby d53_308 rfl ?_
 obtain ⟨T1892, h1892, X1892, e1892, W1892, st1892⟩ := putF X1835 hx hZ1684 hown1684 (host := "") (Or.inl (wi hw 190 rfl)) Via.refl e1835 f1883 f1852 (Or.inl (wi hw 191 rfl)) (wi hw 45 rfl) (ty := .int) (by decide) rfl rfl (g := (mkF m 309 #[vR mp, vR ky, vR fo, vI r_1599, vR t_1638, vN, vI 16, vI (((16 : Int32) - (1 : Int32)) &&& r_1599), vI 0, vN, vN, vI 0, vR nv_1684] [(.int ((0 : Int32) + (1 : Int32))), (.ref mp)])) rfl rfl (hb hby d53_309)
 have N1893 := Fr.snoc X1892 N1836 gm
 have f1909 := f1852.wr W1892
 have f1911 := f1854.other W1892 (Or.inl (Ne.symm ne1622))
 have f1912 := f1855.other W1892 (Or.inl (Ne.symm ne1622))
 have f1913 := f1856.other W1892 (Or.inl (Ne.symm ne1622))
 have f1914 := f1857.other W1892 (Or.inl (Ne.symm ne1622))
 have f1915 := f1858.wr W1892
 have f1916 := f1859.other W1892 (Or.inl (Ne.symm ne1692))
 have f1917 := f1860.other W1892 (Or.inl (Ne.symm ne1692))
 have f1918 := f1861.other W1892 (Or.inl (Ne.symm ne1692))
 have f1919 := f1862.wr W1892
 have f1920 := f1863.other W1892 (Or.inl (Ne.symm ne1704))
 have f1921 := f1864.other W1892 (Or.inl (Ne.symm ne1704))
 have f1922 := f1865.other W1892 (Or.inl (Ne.symm ne1704))
 have f1923 := f1866.other W1892 (Or.inl (Ne.symm ne1704))
 have f1924 := f1867.other W1892 (Or.inl (Ne.symm ne1704))
 have f1925 := f1868.other W1892 (Or.inl (Ne.symm ne1704))
 have f1926 := f1869.other W1892 (Or.inl (Ne.symm ne1704))
 have f1927 := f1870.wr W1892
 have f1928 := f1871.other W1892 (Or.inl (Ne.symm ne1716))
 have f1929 := f1872.other W1892 (Or.inl (Ne.symm ne1716))
 have f1930 := f1873.other W1892 (Ne.symm ne1728)
 have f1931 := f1874.wr W1892
 have f1932 := f1876.other W1892 (Or.inl ne1826)
 have f1933 := f1877.other W1892 (Or.inl ne1826)
 have f1934 := f1879.other W1892 ne1829
 have f1937 := f1882.other W1892 (Or.inr (slot_ne (t := .int) (t' := .int) (Or.inl (wi hw 178 rfl)) (Or.inl (wi hw 191 rfl)) (by decide) (by decide) (by decide)))
 have f1941 := f1886.other W1892 (Or.inr (slot_ne (t := (.object "java/util/LinkedHashMap$Entry")) (t' := .int) (Or.inl (wi hw 245 rfl)) (Or.inl (wi hw 191 rfl)) (by decide) (by decide) (by decide)))
 have Z1944 := Nat.le_trans Z1889 (Keep.of_wr W1892).1
 have hk1945 := Nat.le_trans hk1890 (Keep.of_wr W1892).1
 have Kp1946 : Keep h0 h1892 [mp, ky] := Kp1891.wr W1892 (Or.inl (List.mem_of_getElem? (i := 0) rfl))
 refine Rch.st (fun _ k => st1892 _ k) ?_
 show Rch p e below T1892 (mkF m 312 #[vR mp, vR ky, vR fo, vI r_1599, vR t_1638, vN, vI 16, vI (((16 : Int32) - (1 : Int32)) &&& r_1599), vI 0, vN, vN, vI 0, vR nv_1684] []) _
 refine w_aloadN (pc' := 313) X1892 hx hby d53_312 rfl rfl rfl ?_
 refine w_dup (pc' := 314) X1892 hx hby d53_313 rfl rfl ?_
 obtain ⟨T1947, X1947, e1947, st1947⟩ := getF X1892 hx hZ1684 hown1684 (host := "") (Or.inl (wi hw 177 rfl)) Via.refl e1892 f1937 (g := (mkF m 314 #[vR mp, vR ky, vR fo, vI r_1599, vR t_1638, vN, vI 16, vI (((16 : Int32) - (1 : Int32)) &&& r_1599), vI 0, vN, vN, vI 0, vR nv_1684] [(.ref mp), (.ref mp)])) rfl rfl (hb hby d53_314)
 refine Rch.st (fun _ k => st1947 _ k) ?_
 show Rch p e below T1947 (mkF m 317 #[vR mp, vR ky, vR fo, vI r_1599, vR t_1638, vN, vI 16, vI (((16 : Int32) - (1 : Int32)) &&& r_1599), vI 0, vN, vN, vI 0, vR nv_1684] [(.int 0), (.ref mp)]) _
 refine w_iconst (pc' := 318) (v := 1) X1947 hx hby d53_317 rfl rfl ?_
 refine w_iadd (pc' := 319) X1947 hx hby d53_318 rfl ?_
 obtain ⟨T1948, h1948, X1948, e1948, W1948, st1948⟩ := putF X1947 hx hZ1684 hown1684 (host := "") (Or.inl (wi hw 177 rfl)) Via.refl e1947 f1937 f1909 (Or.inl (wi hw 178 rfl)) (wi hw 45 rfl) (ty := .int) (by decide) rfl rfl (g := (mkF m 319 #[vR mp, vR ky, vR fo, vI r_1599, vR t_1638, vN, vI 16, vI (((16 : Int32) - (1 : Int32)) &&& r_1599), vI 0, vN, vN, vI 0, vR nv_1684] [(.int ((0 : Int32) + (1 : Int32))), (.ref mp)])) rfl rfl (hb hby d53_319)
 have N1949 := Fr.snoc X1948 N1893 gm
 have f1965 := f1909.wr W1948
 have f1967 := f1911.other W1948 (Or.inl (Ne.symm ne1622))
 have f1968 := f1912.other W1948 (Or.inl (Ne.symm ne1622))
 have f1969 := f1913.other W1948 (Or.inl (Ne.symm ne1622))
 have f1970 := f1914.other W1948 (Or.inl (Ne.symm ne1622))
 have f1971 := f1915.wr W1948
 have f1972 := f1916.other W1948 (Or.inl (Ne.symm ne1692))
 have f1973 := f1917.other W1948 (Or.inl (Ne.symm ne1692))
 have f1974 := f1918.other W1948 (Or.inl (Ne.symm ne1692))
 have f1975 := f1919.wr W1948
 have f1976 := f1920.other W1948 (Or.inl (Ne.symm ne1704))
 have f1977 := f1921.other W1948 (Or.inl (Ne.symm ne1704))
 have f1978 := f1922.other W1948 (Or.inl (Ne.symm ne1704))
 have f1979 := f1923.other W1948 (Or.inl (Ne.symm ne1704))
 have f1980 := f1924.other W1948 (Or.inl (Ne.symm ne1704))
 have f1981 := f1925.other W1948 (Or.inl (Ne.symm ne1704))
 have f1982 := f1926.other W1948 (Or.inl (Ne.symm ne1704))
 have f1983 := f1927.wr W1948
 have f1984 := f1928.other W1948 (Or.inl (Ne.symm ne1716))
 have f1985 := f1929.other W1948 (Or.inl (Ne.symm ne1716))
 have f1986 := f1930.other W1948 (Ne.symm ne1728)
 have f1987 := f1931.wr W1948
 have f1988 := f1932.other W1948 (Or.inl ne1826)
 have f1989 := f1933.other W1948 (Or.inl ne1826)
 have f1990 := f1934.other W1948 ne1829
 have f1997 := f1941.other W1948 (Or.inr (slot_ne (t := (.object "java/util/LinkedHashMap$Entry")) (t' := .int) (Or.inl (wi hw 245 rfl)) (Or.inl (wi hw 178 rfl)) (by decide) (by decide) (by decide)))
 have Z2000 := Nat.le_trans Z1944 (Keep.of_wr W1948).1
 have hk2001 := Nat.le_trans hk1945 (Keep.of_wr W1948).1
 have Kp2002 : Keep h0 h1948 [mp, ky] := Kp1946.wr W1948 (Or.inl (List.mem_of_getElem? (i := 0) rfl))
 refine Rch.st (fun _ k => st1948 _ k) ?_
 show Rch p e below T1948 (mkF m 322 #[vR mp, vR ky, vR fo, vI r_1599, vR t_1638, vN, vI 16, vI (((16 : Int32) - (1 : Int32)) &&& r_1599), vI 0, vN, vN, vI 0, vR nv_1684] []) _
 refine w_aloadN (pc' := 323) X1948 hx hby d53_322 rfl rfl rfl ?_
 refine w_iconst (pc' := 324) (v := 1) X1948 hx hby d53_323 rfl rfl ?_
 obtain ⟨cq2003, kq2003, q2003a, q2003b, q2003c⟩ := isOf hZ1684 e1948 f1965
 obtain ⟨_, _, ⟨T2003, L2003, k2003, n2003⟩, -, X2003, ⟨Lc2003, hQ2003, l2003, y2003, z2003⟩, st2003⟩ := X1948.virtualBack hx (y := y_57) (z := y_54) hown1684 (mvT hZ1684 (wi hw 246 rfl)) (mvT hZ1684 (wi hw 247 rfl)) (own_nf (args := #[]) (mvT hZ1684 (wi hw 140 rfl)) rfl) (mvT hZ1684 (wi hw 249 rfl)) (mvT hZ1684 (wi hw 250 rfl)) (by decide) (backOf (W := 0) (rm_ai l Z a0 hw [] mp en_1767 h1948 n0 Z2000 f1965 f1997) hZ1684 (wi hw 251 rfl) (wi hw 46 rfl) (by decide) (by decide)) q2003a q2003c (g := (mkF m 324 #[vR mp, vR ky, vR fo, vI r_1599, vR t_1638, vN, vI 16, vI (((16 : Int32) - (1 : Int32)) &&& r_1599), vI 0, vN, vN, vI 0, vR nv_1684] [(.int 1), (.ref mp)])) rfl (by rw [hml]; rfl) (Steps.refl _) (argsL := [(.int 1)]) (rest := []) (lenOf pd__Z_V rfl) rfl (by show 2 * 0 + _ ≤ _; exact Nat.le_of_eq rfl) (hb hby d53_324) (fun _ _ => ⟨rfl, e1948, (by decide : 10 + 0 ≤ _), (by decide : 88 + 0 ≤ _)⟩)
 dsimp only [Pt.U, Pt.locs, Pt.cells, Pt.slots] at X2003 l2003 y2003 z2003 st2003 hQ2003
 subst l2003 y2003 z2003
 obtain ⟨rfl, NQ2003, K2003⟩ := hQ2003
 have N2004 := Fr.app N1949 NQ2003
 refine Rch.st (fun _ k => st2003.trans k) ?_
 show Rch p e below T2003 (mkF m 327 #[vR mp, vR ky, vR fo, vI r_1599, vR t_1638, vN, vI 16, vI (((16 : Int32) - (1 : Int32)) &&& r_1599), vI 0, vN, vN, vI 0, vR nv_1684] []) _
 refine w_aload (pc' := 329) X2003 hx hby d53_327 rfl rfl rfl ?_
 exact Rch.retVW X2003 hx hS1684 (by rw [K2003]; exact hk2001) Bd.returns rfl (Or.inr (Or.inr (Or.inr (Or.inr ⟨rfl, rfl, rfl⟩)))) (hb hby d53_329) (by rw [K2003]; exact ⟨nv_1684, m2_1684, ns_1684, ts_1684, kts_1684, tv_1684, sa_1684, sbb_1684, ksb_1684, x2_1599, y2_1599, rfl, N2004, Kp2002, (Nat.le_trans Kp1680.1 pq1684_0), (Nat.le_trans Kp1680.1 pq1684_1), (Nat.le_trans Kp1680.1 pq1684_2), (Nat.le_trans Kp1680.1 pq1684_3), f1971, f1972, f1973, f1974, f1975, f1976, f1977, f1978, f1979, f1980, f1981, f1982, f1983, f1984, f1985, f1986, f1987, f1988, f1989, f1990, f1967, f1968, f1969, f1970, own_ib_mono (own_ib (s := s.setVm T1684.vm) IQ1684 X2003.warmed) (by decide), own_lit (s := s) (vm := T1684.vm) LQ1684_0 X2003.warmed.wide⟩) (by decide) (by decide)

theorem ef_rm_af_n1 (m : MethodId) (G1 : Int32) (G6 : Addr) (th : Addr) (nm : Addr) (fd : Addr) (fs : Addr) (fb : Addr) (kfb : ClassId) (fv : List Value) (fdd : Value) (nb : Addr) (knb : ClassId) (nv_ : List Value) (ndd : Value) (ky : Addr) (kb : Addr) (kkb : ClassId) (b0 : Int32) (b1 : Int32) (hv : Int32) (hz : Int32) (mp : Addr)  : entryFrame m #[(.ref th), (.ref fd)] 2 = mkF m 0 #[vR th, vR fd] [] := by  first | (simp [entryFrame, mkF, argsToLocals, Value.category, maxLocals]; done) | rfl
def Q_rm_af_n1 (Z : State) (G1 : Int32) (G6 : Addr) (th : Addr) (nm : Addr) (fd : Addr) (fs : Addr) (fb : Addr) (kfb : ClassId) (fv : List Value) (fdd : Value) (nb : Addr) (knb : ClassId) (nv_ : List Value) (ndd : Value) (ky : Addr) (kb : Addr) (kkb : ClassId) (b0 : Int32) (b1 : Int32) (hv : Int32) (hz : Int32) (mp : Addr) (h0 : Heap) (n0 : Nat) (v : Option Value) (h : Heap) (vm : Vm) (L : List Loc) : Prop := ∃ (nv : Addr) (m2 : Addr) (ns : Addr) (ts : Addr) (kts : ClassId) (tv : List Value) (sa : Addr) (sbb : Addr) (ksb : ClassId) (x2 : Int32) (y2 : Int32), (v = some (.ref nv)) ∧ (Fr n0 L) ∧ (Keep h0 h [mp, ky]) ∧ (h0.size ≤ nv) ∧ (h0.size ≤ m2) ∧ (h0.size ≤ ns) ∧ (h0.size ≤ ts) ∧ (Exa Z h nv "com/example/mandoline/mandoline/Variable") ∧ (Fld Z h nv "com/example/mandoline/mandoline/Variable" "fields" "Ljava/util/Map;" (.ref m2)) ∧ (Fld Z h nv "com/example/mandoline/mandoline/Variable" "name" "Ljava/lang/String;" (.ref ns)) ∧ (Fld Z h nv "com/example/mandoline/mandoline/Variable" "containing" "Lcom/example/mandoline/mandoline/Variable;" (.ref th)) ∧ (Exa Z h m2 "java/util/LinkedHashMap") ∧ (Fld Z h m2 "java/util/HashMap" "table" "[Ljava/util/HashMap$Node;" .null) ∧ (Fld Z h m2 "java/util/HashMap" "size" "I" (.int (0 : Int32))) ∧ (Fld Z h m2 "java/util/HashMap" "modCount" "I" (.int (0 : Int32))) ∧ (Fld Z h m2 "java/util/HashMap" "threshold" "I" (.int (0 : Int32))) ∧ (Fld Z h m2 "java/util/LinkedHashMap" "putMode" "I" (.int (0 : Int32))) ∧ (Fld Z h m2 "java/util/LinkedHashMap" "head" "Ljava/util/LinkedHashMap$Entry;" .null) ∧ (Fld Z h m2 "java/util/LinkedHashMap" "tail" "Ljava/util/LinkedHashMap$Entry;" .null) ∧ (Exa Z h ns "java/lang/String") ∧ (Fld Z h ns "java/lang/String" "coder" "B" (.int (0 : Int32))) ∧ (Fld Z h ns "java/lang/String" "value" "[B" (.ref ts)) ∧ (Arv Z h ts kts .byte (5 : Int32) tv (.int (0 : Int32))) ∧ (Exa Z h sa "java/lang/String") ∧ (Fld Z h sa "java/lang/String" "coder" "B" (.int (0 : Int32))) ∧ (Fld Z h sa "java/lang/String" "value" "[B" (.ref sbb)) ∧ (Arv Z h sbb ksb .byte (1 : Int32) [(.int (46 : Int32))] (.int (0 : Int32))) ∧ (Fld Z h ky "java/lang/String" "coder" "B" (.int (0 : Int32))) ∧ (Fld Z h ky "java/lang/String" "value" "[B" (.ref kb)) ∧ (Fld Z h ky "java/lang/String" "hash" "I" (.int x2)) ∧ (Fld Z h ky "java/lang/String" "hashIsZero" "Z" (.int y2)) ∧ (IB Z vm (["."] : List String)) ∧ (Lit (Z.setVm vm) "com/example/mandoline/mandoline/Variable" 131 sa)
set_option maxRecDepth 65536 in
set_option maxHeartbeats 40000000 in
theorem rm_af_n1 (l : Launch) (Z : State) (a0 : Array Value) (hw : ∀ d ∈ tables_1, d.before a0 Z = true) (ws : List Jvm.Cond) (G1 : Int32) (G6 : Addr) (th : Addr) (nm : Addr) (fd : Addr) (fs : Addr) (fb : Addr) (kfb : ClassId) (fv : List Value) (fdd : Value) (nb : Addr) (knb : ClassId) (nv_ : List Value) (ndd : Value) (ky : Addr) (kb : Addr) (kkb : ClassId) (b0 : Int32) (b1 : Int32) (hv : Int32) (hz : Int32) (mp : Addr) (h0 : Heap) (n0 : Nat) (Z0 : n0 ≤ h0.size) (O2 : Sta Z Z.heap "java/lang/String" "COMPACT_STRINGS" "Z" (.int G1)) (P5 : ¬ G1 = 0) (O6 : Sta Z Z.heap "java/util/ImmutableCollections" "EMPTY_LIST" "Ljava/util/ImmutableCollections$ListN;" (.ref G6)) (f3 : Exa Z h0 th "com/example/mandoline/mandoline/Variable") (f4 : Fld Z h0 th "com/example/mandoline/mandoline/Variable" "name" "Ljava/lang/String;" (.ref nm)) (f5 : Exa Z h0 fd "com/example/mandoline/mandoline/Place$Field") (f6 : Fld Z h0 fd "com/example/mandoline/mandoline/Place$Field" "name" "Ljava/lang/String;" (.ref fs)) (f7 : Exa Z h0 fs "java/lang/String") (f8 : Fld Z h0 fs "java/lang/String" "coder" "B" (.int (0 : Int32))) (f9 : Fld Z h0 fs "java/lang/String" "value" "[B" (.ref fb)) (f10 : Arv Z h0 fb kfb .byte (2 : Int32) fv fdd) (f11 : Exa Z h0 nm "java/lang/String") (f12 : Fld Z h0 nm "java/lang/String" "coder" "B" (.int (0 : Int32))) (f13 : Fld Z h0 nm "java/lang/String" "value" "[B" (.ref nb)) (f14 : Arv Z h0 nb knb .byte (2 : Int32) nv_ ndd) (H131 : Jvm.Lit.constHeld Z "com/example/mandoline/mandoline/Variable" 131) (hcw : Jvm.Lit.compactW.before a0 Z = true) (f17 : Fld Z h0 th "com/example/mandoline/mandoline/Variable" "fields" "Ljava/util/Map;" (.ref mp)) (f18 : Fld Z h0 fd "com/example/mandoline/mandoline/Place$Field" "key" "Ljava/lang/String;" (.ref ky)) (f19 : Exa Z h0 ky "java/lang/String") (f20 : Fld Z h0 ky "java/lang/String" "coder" "B" (.int (0 : Int32))) (f21 : Fld Z h0 ky "java/lang/String" "value" "[B" (.ref kb)) (f22 : Fld Z h0 ky "java/lang/String" "hash" "I" (.int hv)) (f23 : Fld Z h0 ky "java/lang/String" "hashIsZero" "Z" (.int hz)) (f24 : Arv Z h0 kb kkb .byte (2 : Int32) [(.int b0), (.int b1)] (.int (0 : Int32))) (f25 : Exa Z h0 kb "[B") (f26 : Exa Z h0 mp "java/util/LinkedHashMap") (f27 : Fld Z h0 mp "java/util/HashMap" "table" "[Ljava/util/HashMap$Node;" .null) (f28 : Fld Z h0 mp "java/util/HashMap" "size" "I" (.int (0 : Int32))) (f29 : Fld Z h0 mp "java/util/HashMap" "modCount" "I" (.int (0 : Int32))) (f30 : Fld Z h0 mp "java/util/HashMap" "threshold" "I" (.int (0 : Int32))) (f31 : Fld Z h0 mp "java/util/LinkedHashMap" "putMode" "I" (.int (0 : Int32))) (f32 : Fld Z h0 mp "java/util/LinkedHashMap" "head" "Ljava/util/LinkedHashMap$Entry;" .null) (f33 : Fld Z h0 mp "java/util/LinkedHashMap" "tail" "Ljava/util/LinkedHashMap$Entry;" .null) (gm : n0 ≤ mp) (gk : n0 ≤ ky) (qs1 : fs ≠ ky) (qs2 : nm ≠ ky) (Old0 : OldL Z n0 h0) :
    MetW l Z y_58 c54 2 (some (.object "com/example/mandoline/mandoline/Variable")) ws (Rm 9 11 90 3076) #[(.ref th), (.ref fd)] h0 (fun vm => IB Z vm ([] : List String)) (Q_rm_af_n1 Z G1 G6 th nm fd fs fb kfb fv fdd nb knb nv_ ndd ky kb kkb b0 b1 hv hz mp h0 n0) := by
 refine MetFree.of_bodySF (plainFor_of_name pn_com_example_mandoline_mandoline_Variable) hisR ?_
 intro p e s m args below meth c s₁ Bd hml0 hP hK
 obtain ⟨rfl, hZ, hh, hI⟩ := hP
 have hx := Bd.exec
 have hby := Bd.bytes
 have hml : c.maxLocals = 2 := hml0
 have hown : s.vm.findClass "com/example/mandoline/mandoline/Variable" = some m.cls := findClass_of_methodNamed Bd.named
 have X0 : Stand p l e (Rm 9 11 90 3076) (s.setVm s.vm) m #[(.ref th), (.ref fd)] below meth c s₁ [] 0 0 := Stand.of_body Bd
 have e0 : s₁.heap = h0 := by rw [← hh, Bd.state]; rfl
 have N0 := Fr.nil n0
 have K00 : Keep h0 h0 [mp, ky] := Keep.refl _ _
 have hS0 : s.Since s.vm s.heap.size := (State.WarmedH.refl s).since _
 have hk0 : s.heap.size ≤ h0.size := by rw [hh]; exact Nat.le_refl _
 have hkeep : ∀ (b : Addr) (cl : Cell), Z.heap[b]? = some cl → s.heap[b]? = some cl := by rw [hh]; exact Old0.2.2
 show Rch p e below s₁ (entryFrame m #[(.ref th), (.ref fd)] 2) (FinW s (Q_rm_af_n1 Z G1 G6 th nm fd fs fb kfb fv fdd nb knb nv_ ndd ky kb kkb b0 b1 hv hz mp h0 n0) 11 90)
 refine Rch.cast (ef_rm_af_n1 m G1 G6 th nm fd fs fb kfb fv fdd nb knb nv_ ndd ky kb kkb b0 b1 hv hz mp) ?_
 show Rch p e below s₁ (mkF m 0 #[vR th, vR fd] []) _
 refine w_aloadN (pc' := 1) X0 hx hby d54_0 rfl rfl rfl ?_
 obtain ⟨T2005, X2005, e2005, st2005⟩ := getF X0 hx hZ hown (host := "") (Or.inl (wi hw 70 rfl)) Via.refl e0 f17 (g := (mkF m 1 #[vR th, vR fd] [(.ref th)])) rfl rfl (hb hby d54_1)
 refine Rch.st (fun _ k => st2005 _ k) ?_
 show Rch p e below T2005 (mkF m 4 #[vR th, vR fd] [(.ref mp)]) _
 refine w_aloadN (pc' := 5) X2005 hx hby d54_4 rfl rfl rfl ?_
 obtain ⟨cq2006, kq2006, q2006a, q2006b, q2006c⟩ := isOf hZ e2005 f5
 obtain ⟨_, _, ⟨T2006, L2006, k2006, n2006⟩, -, X2006, ⟨Lc2006, hQ2006, l2006, y2006, z2006⟩, st2006⟩ := X2005.virtualBack hx (y := y_39) (z := y_39) hown (mvT hZ (wi hw 128 rfl)) (mvT hZ (wi hw 129 rfl)) (notFace_of_selects (args := #[]) (mvT hZ (wi hw 131 rfl))) (mvT hZ (wi hw 131 rfl)) (mvT hZ (wi hw 130 rfl)) (by decide) (backOf (W := 1) (rm_ky l Z a0 hw [] fd ky h0 n0 Z0 f18) hZ (wi hw 132 rfl) (wi hw 109 rfl) (by decide) (by decide)) q2006a q2006c (g := (mkF m 5 #[vR th, vR fd] [(.ref fd), (.ref mp)])) rfl (by rw [hml]; rfl) (Steps.refl _) (argsL := []) (rest := [(.ref mp)]) (lenOf pd___Ljava_lang_String_ rfl) rfl (by show 2 * 0 + _ ≤ _; exact Nat.le_of_eq rfl) (hb hby d54_5) (fun _ _ => ⟨rfl, e2005, (by decide : 0 + 0 ≤ _), (by decide : 0 + 0 ≤ _)⟩)
 dsimp only [Pt.U, Pt.locs, Pt.cells, Pt.slots] at X2006 l2006 y2006 z2006 st2006 hQ2006
 subst l2006 y2006 z2006
 obtain ⟨rfl, NQ2006, K2006⟩ := hQ2006
 have N2007 := Fr.app N0 NQ2006
 refine Rch.st (fun _ k => st2006.trans k) ?_
 show Rch p e below T2006 (mkF m 8 #[vR th, vR fd] [(.ref ky), (.ref mp)]) _
 refine w_aloadN (pc' := 9) X2006 hx hby d54_8 rfl rfl rfl ?_
 refine w_aloadN (pc' := 10) X2006 hx hby d54_9 rfl rfl rfl ?_
 obtain ⟨T2008, h2008, cK2008, MD2008, X2008, e2008, E2008, F2008, st2008⟩ := own_mkLam (σ := own_sg) X2006 hx hZ Bd.named (wi hw 133 rfl) rfl own_hc0 (wi hw 136 rfl) K2006 (g := (mkF m 10 #[vR th, vR fd] [(.ref fd), (.ref th), (.ref ky), (.ref mp)])) rfl rfl (by rw [hml]; rfl) (hb hby d54_10) (va := (.ref th)) (vb := (.ref fd)) rfl ⟨rfl, rfl⟩ ⟨rfl, rfl⟩ (by show 2 * 0 + 4 + 3072 ≤ _; decide) (by decide) (by decide)
 obtain ⟨a2008, g2008⟩ : ∃ z, z = h0.size := ⟨_, rfl⟩
 rw [← g2008] at F2008 st2008
 have ne2013 : ky ≠ a2008 := by rw [g2008]; exact Nat.ne_of_lt f19.lt
 have ne2014 : mp ≠ a2008 := by rw [g2008]; exact Nat.ne_of_lt f26.lt
 have hk2020 := Nat.le_trans hk0 E2008.1
 have f2021 := f3.ext E2008
 have f2022 := f4.ext E2008
 have f2023 := f5.ext E2008
 have f2024 := f6.ext E2008
 have f2025 := f7.ext E2008
 have f2026 := f8.ext E2008
 have f2027 := f9.ext E2008
 have f2028 := f10.ext E2008
 have f2029 := f11.ext E2008
 have f2030 := f12.ext E2008
 have f2031 := f13.ext E2008
 have f2032 := f14.ext E2008
 have f2035 := f19.ext E2008
 have f2036 := f20.ext E2008
 have f2037 := f21.ext E2008
 have f2038 := f22.ext E2008
 have f2039 := f23.ext E2008
 have f2040 := f24.ext E2008
 have f2041 := f25.ext E2008
 have f2042 := f26.ext E2008
 have f2043 := f27.ext E2008
 have f2044 := f28.ext E2008
 have f2045 := f29.ext E2008
 have f2046 := f30.ext E2008
 have f2047 := f31.ext E2008
 have f2048 := f32.ext E2008
 have f2049 := f33.ext E2008
 have Old2050 := Old0.ext E2008
 have Z2051 := Nat.le_trans Z0 E2008.1
 have Kp2052 : Keep h0 h2008 [mp, ky] := K00.ext E2008
 refine Rch.st (fun _ k => st2008 _ k) ?_
 show Rch p e below T2008 (mkF m 15 #[vR th, vR fd] [(.ref a2008), (.ref ky), (.ref mp)]) _
 obtain ⟨cq2053, kq2053, q2053a, q2053b, q2053c⟩ := isOf hZ e2008 f2042
 obtain ⟨_, _, ⟨T2053, L2053, k2053, n2053⟩, -, X2053, hSx2053, hgx2053, ⟨Lc2053, hQ2053, l2053, y2053, z2053⟩, st2053⟩ := X2008.interfaceBackS hx (xi := y_59) (y := y_55) hown (mvT hZ (wi hw 137 rfl)) (mvT hZ (wi hw 138 rfl)) (mvT hZ (wi hw 139 rfl)) (mvT hZ (wi hw 140 rfl)) (mvT hZ (wi hw 141 rfl)) (mvT hZ (wi hw 142 rfl)) (mvT hZ (wi hw 143 rfl)) (mvT hZ (wi hw 144 rfl)) (by decide) (backOfV (PV := fun vm => IB Z vm ([] : List String)) (W := 0) (rm_ci_n1 l Z a0 hw [] G1 G6 th nm fd fs fb kfb fv fdd nb knb nv_ ndd ky kb kkb b0 b1 hv hz mp a2008 cK2008 h2008 n0 Z2051 (O2) (P5) (O6) f2021 f2022 f2023 f2024 f2025 f2026 f2027 f2028 f2029 f2030 f2031 f2032 (H131) (hcw) f2035 f2036 f2037 f2038 f2039 f2040 f2041 f2042 f2043 f2044 f2045 f2046 f2047 f2048 f2049 F2008 (MD2008) (gm) (gk) ((Ne.symm ne2013)) ((Ne.symm ne2014)) (qs1) (qs2) Old2050) hZ (fun vm hW => own_ib (s := s.setVm s.vm) hI hW) (wi hw 145 rfl) (wi hw 54 rfl) (by decide) (by decide)) q2053a q2053b q2053c (g := (mkF m 15 #[vR th, vR fd] [(.ref a2008), (.ref ky), (.ref mp)])) rfl (by rw [hml]; rfl) (Steps.refl _) (argsL := [(.ref ky), (.ref a2008)]) (rest := []) (lenOf pd__Ljava_lang_Object_Ljava_util_function_Function__Ljava_lang_Object_ rfl) rfl (by show 2 * 0 + _ ≤ _; exact Nat.le_of_eq rfl) (hb hby d54_15) (fun _ _ => ⟨rfl, e2008, (by decide : 1 + 10 ≤ _), (by decide : 2 + 88 ≤ _)⟩)
 dsimp only [Pt.U, Pt.locs, Pt.cells, Pt.slots] at X2053 l2053 y2053 z2053 st2053 hQ2053 hSx2053 hgx2053
 subst l2053 y2053 z2053
 have hS2053 := foldS hS0 (by rw [e2008]; exact hk2020) hSx2053 hgx2053
 have hk2053 : T2053.heap.size ≤ T2053.heap.size := Nat.le_refl _
 have hZ2053 : Z.Warmed39 (s.setVm T2053.vm).vm := State.Warmed39.trans (t := s.setVm s.vm) hZ hSx2053.1
 have hown2053 : (s.setVm T2053.vm).vm.findClass "com/example/mandoline/mandoline/Variable" = some m.cls := by rw [show (s.setVm T2053.vm).vm = T2053.vm from rfl, hSx2053.1.alike.findClass]; exact hown
 have X2053w : Stand p l e (Rm 9 11 90 3076) (s.setVm T2053.vm) m _ below meth c T2053 _ _ _ := X2053
 obtain ⟨nv_2053, m2_2053, ns_2053, ts_2053, kts_2053, tv_2053, sa_2053, sbb_2053, ksb_2053, x2_2053, y2_2053, rfl, NQ2053, K2053, pq2053_0, pq2053_1, pq2053_2, pq2053_3, fq2053_0, fq2053_1, fq2053_2, fq2053_3, fq2053_4, fq2053_5, fq2053_6, fq2053_7, fq2053_8, fq2053_9, fq2053_10, fq2053_11, fq2053_12, fq2053_13, fq2053_14, fq2053_15, fq2053_16, fq2053_17, fq2053_18, fq2053_19, fq2053_20, fq2053_21, fq2053_22, fq2053_23, IQ2053, LQ2053_0⟩ := hQ2053
 have N2054 := Fr.app N2007 NQ2053
 have Kp2131 : Keep h0 T2053.heap [mp, ky] := Kp2052.trans K2053 (allS (Or.inl (List.mem_of_getElem? (i := 0) rfl)) (allS (Or.inl (List.mem_of_getElem? (i := 1) rfl)) all0))
 refine Rch.st (fun _ k => st2053.trans k) ?_
 show Rch p e below T2053 (mkF m 20 #[vR th, vR fd] [(.ref nv_2053)]) _
 obtain ⟨T2133, X2133, e2133, st2133⟩ := castY X2053w hx hZ2053 hown2053 (wi hw 198 rfl) (rfl : T2053.heap = T2053.heap) (Ins.self fq2053_0) (g := (mkF m 20 #[vR th, vR fd] [(.ref nv_2053)])) rfl rfl (hb hby d54_20)
 refine Rch.st (fun _ k => st2133 _ k) ?_
 show Rch p e below T2133 (mkF m 23 #[vR th, vR fd] [(.ref nv_2053)]) _
 exact Rch.retVW X2133 hx hS2053 (by rw [e2133]; exact hk2053) Bd.returns rfl (Or.inr (Or.inr (Or.inr (Or.inr ⟨rfl, rfl, rfl⟩)))) (hb hby d54_23) (by rw [e2133]; exact ⟨nv_2053, m2_2053, ns_2053, ts_2053, kts_2053, tv_2053, sa_2053, sbb_2053, ksb_2053, x2_2053, y2_2053, rfl, N2054, Kp2131, (Nat.le_trans Kp2052.1 pq2053_0), (Nat.le_trans Kp2052.1 pq2053_1), (Nat.le_trans Kp2052.1 pq2053_2), (Nat.le_trans Kp2052.1 pq2053_3), fq2053_0, fq2053_1, fq2053_2, fq2053_3, fq2053_4, fq2053_5, fq2053_6, fq2053_7, fq2053_8, fq2053_9, fq2053_10, fq2053_11, fq2053_12, fq2053_13, fq2053_14, fq2053_15, fq2053_16, fq2053_17, fq2053_18, fq2053_19, fq2053_20, fq2053_21, fq2053_22, fq2053_23, own_ib_mono (own_ib (s := s.setVm T2053.vm) IQ2053 X2133.warmed) (by decide), own_lit (s := s) (vm := T2053.vm) LQ2053_0 X2133.warmed.wide⟩) (by decide) (by decide)

theorem ef_rm_lam_n2 (m : MethodId) (G1 : Int32) (G6 : Addr) (th : Addr) (nm : Addr) (fd : Addr) (fs : Addr) (fb : Addr) (kfb : ClassId) (fv : List Value) (fdd : Value) (nb : Addr) (knb : ClassId) (nv_ : List Value) (ndd : Value) (sa : Addr) (sbb : Addr) (ksb : ClassId) (ky : Addr)  : entryFrame m #[(.ref th), (.ref fd), (.ref ky)] 3 = mkF m 0 #[vR th, vR fd, vR ky] [] := by  first | (simp [entryFrame, mkF, argsToLocals, Value.category, maxLocals]; done) | rfl
def Q_rm_lam_n2 (Z : State) (G1 : Int32) (G6 : Addr) (th : Addr) (nm : Addr) (fd : Addr) (fs : Addr) (fb : Addr) (kfb : ClassId) (fv : List Value) (fdd : Value) (nb : Addr) (knb : ClassId) (nv_ : List Value) (ndd : Value) (sa : Addr) (sbb : Addr) (ksb : ClassId) (ky : Addr) (h0 : Heap) (n0 : Nat) (v : Option Value) (h : Heap) (vm : Vm) (L : List Loc) : Prop := ∃ (nv : Addr) (m2 : Addr) (ns : Addr) (ts : Addr) (kts : ClassId) (tv : List Value), (v = some (.ref nv)) ∧ (Fr n0 L) ∧ (Keep h0 h []) ∧ (h0.size ≤ nv) ∧ (h0.size ≤ m2) ∧ (h0.size ≤ ns) ∧ (h0.size ≤ ts) ∧ (Exa Z h nv "com/example/mandoline/mandoline/Variable") ∧ (Fld Z h nv "com/example/mandoline/mandoline/Variable" "fields" "Ljava/util/Map;" (.ref m2)) ∧ (Fld Z h nv "com/example/mandoline/mandoline/Variable" "name" "Ljava/lang/String;" (.ref ns)) ∧ (Fld Z h nv "com/example/mandoline/mandoline/Variable" "containing" "Lcom/example/mandoline/mandoline/Variable;" (.ref th)) ∧ (Exa Z h m2 "java/util/LinkedHashMap") ∧ (Fld Z h m2 "java/util/HashMap" "table" "[Ljava/util/HashMap$Node;" .null) ∧ (Fld Z h m2 "java/util/HashMap" "size" "I" (.int (0 : Int32))) ∧ (Fld Z h m2 "java/util/HashMap" "modCount" "I" (.int (0 : Int32))) ∧ (Fld Z h m2 "java/util/HashMap" "threshold" "I" (.int (0 : Int32))) ∧ (Fld Z h m2 "java/util/LinkedHashMap" "putMode" "I" (.int (0 : Int32))) ∧ (Fld Z h m2 "java/util/LinkedHashMap" "head" "Ljava/util/LinkedHashMap$Entry;" .null) ∧ (Fld Z h m2 "java/util/LinkedHashMap" "tail" "Ljava/util/LinkedHashMap$Entry;" .null) ∧ (Exa Z h ns "java/lang/String") ∧ (Fld Z h ns "java/lang/String" "coder" "B" (.int (0 : Int32))) ∧ (Fld Z h ns "java/lang/String" "value" "[B" (.ref ts)) ∧ (Arv Z h ts kts .byte (8 : Int32) tv (.int (0 : Int32))) ∧ (IB Z vm (["."] : List String))
set_option maxRecDepth 65536 in
set_option maxHeartbeats 40000000 in
theorem rm_lam_n2 (l : Launch) (Z : State) (a0 : Array Value) (hw : ∀ d ∈ tables_1, d.before a0 Z = true) (ws : List Jvm.Cond) (G1 : Int32) (G6 : Addr) (th : Addr) (nm : Addr) (fd : Addr) (fs : Addr) (fb : Addr) (kfb : ClassId) (fv : List Value) (fdd : Value) (nb : Addr) (knb : ClassId) (nv_ : List Value) (ndd : Value) (sa : Addr) (sbb : Addr) (ksb : ClassId) (ky : Addr) (h0 : Heap) (n0 : Nat) (Z0 : n0 ≤ h0.size) (O2 : Sta Z Z.heap "java/lang/String" "COMPACT_STRINGS" "Z" (.int G1)) (P5 : ¬ G1 = 0) (O6 : Sta Z Z.heap "java/util/ImmutableCollections" "EMPTY_LIST" "Ljava/util/ImmutableCollections$ListN;" (.ref G6)) (f3 : Exa Z h0 th "com/example/mandoline/mandoline/Variable") (f4 : Fld Z h0 th "com/example/mandoline/mandoline/Variable" "name" "Ljava/lang/String;" (.ref nm)) (f5 : Exa Z h0 fd "com/example/mandoline/mandoline/Place$Field") (f6 : Fld Z h0 fd "com/example/mandoline/mandoline/Place$Field" "name" "Ljava/lang/String;" (.ref fs)) (f7 : Exa Z h0 fs "java/lang/String") (f8 : Fld Z h0 fs "java/lang/String" "coder" "B" (.int (0 : Int32))) (f9 : Fld Z h0 fs "java/lang/String" "value" "[B" (.ref fb)) (f10 : Arv Z h0 fb kfb .byte (2 : Int32) fv fdd) (f11 : Exa Z h0 nm "java/lang/String") (f12 : Fld Z h0 nm "java/lang/String" "coder" "B" (.int (0 : Int32))) (f13 : Fld Z h0 nm "java/lang/String" "value" "[B" (.ref nb)) (f14 : Arv Z h0 nb knb .byte (5 : Int32) nv_ ndd) (f15 : Exa Z h0 sa "java/lang/String") (f16 : Fld Z h0 sa "java/lang/String" "coder" "B" (.int (0 : Int32))) (f17 : Fld Z h0 sa "java/lang/String" "value" "[B" (.ref sbb)) (f18 : Arv Z h0 sbb ksb .byte (1 : Int32) [(.int (46 : Int32))] (.int (0 : Int32))) (Old0 : OldL Z n0 h0) :
    MetW l Z y_1 c52 3 (some (.object "com/example/mandoline/mandoline/Variable")) ws (Rm 6 6 58 93) #[(.ref th), (.ref fd), (.ref ky)] h0 (fun vm => IB Z vm (["."] : List String) ∧ Lit (Z.setVm vm) "com/example/mandoline/mandoline/Variable" 131 sa) (Q_rm_lam_n2 Z G1 G6 th nm fd fs fb kfb fv fdd nb knb nv_ ndd sa sbb ksb ky h0 n0) := by
 refine MetFree.of_bodySF (plainFor_of_name pn_com_example_mandoline_mandoline_Variable) hisR ?_
 intro p e s m args below meth c s₁ Bd hml0 hP hK
 obtain ⟨rfl, hZ, hh, hI, hLi0⟩ := hP
 have hx := Bd.exec
 have hby := Bd.bytes
 have hml : c.maxLocals = 3 := hml0
 have hown : s.vm.findClass "com/example/mandoline/mandoline/Variable" = some m.cls := findClass_of_methodNamed Bd.named
 have X0 : Stand p l e (Rm 6 6 58 93) (s.setVm s.vm) m #[(.ref th), (.ref fd), (.ref ky)] below meth c s₁ [] 0 0 := Stand.of_body Bd
 have e0 : s₁.heap = h0 := by rw [← hh, Bd.state]; rfl
 have N0 := Fr.nil n0
 have K00 : Keep h0 h0 [] := Keep.refl _ _
 have hS0 : s.Since s.vm s.heap.size := (State.WarmedH.refl s).since _
 have hk0 : s.heap.size ≤ h0.size := by rw [hh]; exact Nat.le_refl _
 have hkeep : ∀ (b : Addr) (cl : Cell), Z.heap[b]? = some cl → s.heap[b]? = some cl := by rw [hh]; exact Old0.2.2
 show Rch p e below s₁ (entryFrame m #[(.ref th), (.ref fd), (.ref ky)] 3) (FinW s (Q_rm_lam_n2 Z G1 G6 th nm fd fs fb kfb fv fdd nb knb nv_ ndd sa sbb ksb ky h0 n0) 6 58)
 refine Rch.cast (ef_rm_lam_n2 m G1 G6 th nm fd fs fb kfb fv fdd nb knb nv_ ndd sa sbb ksb ky) ?_
 have Z0f := Nat.le_refl h0.size
 have N0f := Fr.nil h0.size
 have OldF := Old0.up Z0
 show Rch p e below s₁ (mkF m 0 #[vR th, vR fd, vR ky] []) _
 obtain ⟨T2134, h2134, X2134, e2134, E2134, A2134, D2134, -, st2134⟩ := newO X0 hx hZ hown (wi hw 198 rfl) (wi hw 35 rfl) (wi hw 36 rfl) e0 (g := (mkF m 0 #[vR th, vR fd, vR ky] [])) rfl (hb hby d52_0) (by decide) (by decide)
 obtain ⟨a2134, g2134⟩ : ∃ z, z = h0.size := ⟨_, rfl⟩
 rw [← g2134] at A2134 D2134 st2134
 have ge2143 : h0.size ≤ a2134 := Nat.le_trans Z0f (Nat.le_of_eq g2134.symm)
 have hk2145 := Nat.le_trans hk0 E2134.1
 have f2146 := f3.ext E2134
 have f2147 := f4.ext E2134
 have f2148 := f5.ext E2134
 have f2149 := f6.ext E2134
 have f2150 := f7.ext E2134
 have f2151 := f8.ext E2134
 have f2152 := f9.ext E2134
 have f2153 := f10.ext E2134
 have f2154 := f11.ext E2134
 have f2155 := f12.ext E2134
 have f2156 := f13.ext E2134
 have f2157 := f14.ext E2134
 have f2158 := f15.ext E2134
 have f2159 := f16.ext E2134
 have f2160 := f17.ext E2134
 have f2161 := f18.ext E2134
 have Old2162 := OldF.ext E2134
 have Z2163 := Nat.le_trans Z0f E2134.1
 have Kp2164 : Keep h0 h2134 [] := K00.ext E2134
 have f2165 : Fld Z h2134 a2134 "com/example/mandoline/mandoline/Variable" "fields" "Ljava/util/Map;" .null := D2134 (Or.inr (wi hw 71 rfl)) (ty := (.object "java/util/Map")) (by decide)
 have f2166 : Fld Z h2134 a2134 "com/example/mandoline/mandoline/Variable" "declarationNodes" "Ljava/util/List;" .null := D2134 (Or.inl (wi hw 79 rfl)) (ty := (.object "java/util/List")) (by decide)
 have f2167 : Fld Z h2134 a2134 "com/example/mandoline/mandoline/Variable" "name" "Ljava/lang/String;" .null := D2134 (Or.inr (wi hw 81 rfl)) (ty := (.object "java/lang/String")) (by decide)
 have f2168 : Fld Z h2134 a2134 "com/example/mandoline/mandoline/Variable" "declaringStatement" "Lcom/example/mandoline/mandoline/ClangNode;" .null := D2134 (Or.inr (wi hw 83 rfl)) (ty := (.object "com/example/mandoline/mandoline/ClangNode")) (by decide)
 have f2169 : Fld Z h2134 a2134 "com/example/mandoline/mandoline/Variable" "function" "Ljava/lang/String;" .null := D2134 (Or.inr (wi hw 85 rfl)) (ty := (.object "java/lang/String")) (by decide)
 have f2170 : Fld Z h2134 a2134 "com/example/mandoline/mandoline/Variable" "containing" "Lcom/example/mandoline/mandoline/Variable;" .null := D2134 (Or.inr (wi hw 87 rfl)) (ty := (.object "com/example/mandoline/mandoline/Variable")) (by decide)
 refine Rch.st (fun _ k => st2134 _ k) ?_
 show Rch p e below T2134 (mkF m 3 #[vR th, vR fd, vR ky] [(.ref a2134)]) _
 refine w_dup (pc' := 4) X2134 hx hby d52_3 rfl rfl ?_
 refine w_aloadN (pc' := 5) X2134 hx hby d52_4 rfl rfl rfl ?_
 obtain ⟨cq2171, kq2171, q2171a, q2171b, q2171c⟩ := isOf hZ e2134 f2148
 obtain ⟨_, _, ⟨T2171, L2171, k2171, n2171⟩, -, X2171, ⟨Lc2171, hQ2171, l2171, y2171, z2171⟩, st2171⟩ := X2134.virtualBack hx (y := y_40) (z := y_40) hown (mvT hZ (wi hw 199 rfl)) (mvT hZ (wi hw 200 rfl)) (notFace_of_selects (args := #[]) (mvT hZ (wi hw 202 rfl))) (mvT hZ (wi hw 202 rfl)) (mvT hZ (wi hw 201 rfl)) (by decide) (backOf (W := 2) (rm_nm l Z a0 hw [] fd fs h2134 h0.size Z2163 f2149) hZ (wi hw 203 rfl) (wi hw 109 rfl) (by decide) (by decide)) q2171a q2171c (g := (mkF m 5 #[vR th, vR fd, vR ky] [(.ref fd), (.ref a2134), (.ref a2134)])) rfl (by rw [hml]; rfl) (Steps.refl _) (argsL := []) (rest := [(.ref a2134), (.ref a2134)]) (lenOf pd___Ljava_lang_String_ rfl) rfl (by show 2 * 0 + _ ≤ _; exact Nat.le_of_eq rfl) (hb hby d52_5) (fun _ _ => ⟨rfl, e2134, (by decide : 1 + 0 ≤ _), (by decide : 6 + 0 ≤ _)⟩)
 dsimp only [Pt.U, Pt.locs, Pt.cells, Pt.slots] at X2171 l2171 y2171 z2171 st2171 hQ2171
 subst l2171 y2171 z2171
 obtain ⟨rfl, NQ2171, K2171⟩ := hQ2171
 have N2172 := Fr.app N0f NQ2171
 refine Rch.st (fun _ k => st2171.trans k) ?_
 show Rch p e below T2171 (mkF m 8 #[vR th, vR fd, vR ky] [(.ref fs), (.ref a2134), (.ref a2134)]) _
 obtain ⟨cq2173, kq2173, q2173a, q2173b, q2173c⟩ := isOf hZ K2171 f2150
 obtain ⟨_, _, ⟨T2173, L2173, k2173, n2173⟩, -, X2173, ⟨Lc2173, hQ2173, l2173, y2173, z2173⟩, st2173⟩ := X2171.virtualBack hx (y := y_41) (z := y_41) hown (mvT hZ (wi hw 204 rfl)) (mvT hZ (wi hw 205 rfl)) (notFace_of_selects (args := #[]) (mvT hZ (wi hw 207 rfl))) (mvT hZ (wi hw 207 rfl)) (mvT hZ (wi hw 206 rfl)) (by decide) (backOf (W := 2) (rm_ie2 l Z a0 hw [] fs fb kfb fv fdd h2134 h0.size Z2163 f2152 f2153) hZ (wi hw 208 rfl) (wi hw 7 rfl) (by decide) (by decide)) q2173a q2173c (g := (mkF m 8 #[vR th, vR fd, vR ky] [(.ref fs), (.ref a2134), (.ref a2134)])) rfl (by rw [hml]; rfl) (Steps.refl _) (argsL := []) (rest := [(.ref a2134), (.ref a2134)]) (lenOf pd___Z rfl) rfl (by show 2 * 0 + _ ≤ _; exact Nat.le_of_eq rfl) (hb hby d52_8) (fun _ _ => ⟨rfl, K2171, (by decide : 1 + 0 ≤ _), (by decide : 6 + 0 ≤ _)⟩)
 dsimp only [Pt.U, Pt.locs, Pt.cells, Pt.slots] at X2173 l2173 y2173 z2173 st2173 hQ2173
 subst l2173 y2173 z2173
 obtain ⟨rfl, NQ2173, K2173⟩ := hQ2173
 have N2174 := Fr.app N2172 NQ2173
 refine Rch.st (fun _ k => st2173.trans k) ?_
 show Rch p e below T2173 (mkF m 11 #[vR th, vR fd, vR ky] [(.int 0), (.ref a2134), (.ref a2134)]) _
 refine w_ifYes (pc' := 21) X2173 hx hby d52_11 (XT.i0_eq_t (by decide)) (by decide) ?_
 obtain ⟨T2175, h2175, X2175, e2175, E2175, A2175, D2175, -, st2175⟩ := newO X2173 hx hZ hown (wi hw 258 rfl) (wi hw 259 rfl) (wi hw 260 rfl) K2173 (g := (mkF m 21 #[vR th, vR fd, vR ky] [(.ref a2134), (.ref a2134)])) rfl (hb hby d52_21) (by decide) (by decide)
 obtain ⟨a2175, g2175⟩ : ∃ z, z = h2134.size := ⟨_, rfl⟩
 rw [← g2175] at A2175 D2175 st2175
 have ne2176 : a2134 ≠ a2175 := by rw [g2175]; exact Nat.ne_of_lt A2134.lt
 have ne2177 : fb ≠ a2175 := by rw [g2175]; exact Nat.ne_of_lt f2153.lt
 have ne2178 : fd ≠ a2175 := by rw [g2175]; exact Nat.ne_of_lt f2148.lt
 have ne2179 : fs ≠ a2175 := by rw [g2175]; exact Nat.ne_of_lt f2150.lt
 have ne2180 : nb ≠ a2175 := by rw [g2175]; exact Nat.ne_of_lt f2157.lt
 have ne2181 : nm ≠ a2175 := by rw [g2175]; exact Nat.ne_of_lt f2154.lt
 have ne2182 : sa ≠ a2175 := by rw [g2175]; exact Nat.ne_of_lt f2158.lt
 have ne2183 : sbb ≠ a2175 := by rw [g2175]; exact Nat.ne_of_lt f2161.lt
 have ne2184 : th ≠ a2175 := by rw [g2175]; exact Nat.ne_of_lt f2146.lt
 have ge2185 : h0.size ≤ a2175 := Nat.le_trans Z2163 (Nat.le_of_eq g2175.symm)
 have hk2187 := Nat.le_trans hk2145 E2175.1
 have f2189 := f2147.ext E2175
 have f2190 := f2148.ext E2175
 have f2191 := f2149.ext E2175
 have f2192 := f2150.ext E2175
 have f2193 := f2151.ext E2175
 have f2194 := f2152.ext E2175
 have f2195 := f2153.ext E2175
 have f2196 := f2154.ext E2175
 have f2197 := f2155.ext E2175
 have f2198 := f2156.ext E2175
 have f2199 := f2157.ext E2175
 have f2200 := f2158.ext E2175
 have f2201 := f2159.ext E2175
 have f2202 := f2160.ext E2175
 have f2203 := f2161.ext E2175
 have f2204 := A2134.ext E2175
 have f2205 := f2165.ext E2175
 have f2206 := f2166.ext E2175
 have f2207 := f2167.ext E2175
 have f2208 := f2168.ext E2175
 have f2209 := f2169.ext E2175
 have f2210 := f2170.ext E2175
 have Old2211 := Old2162.ext E2175
 have Z2212 := Nat.le_trans Z2163 E2175.1
 have Kp2213 : Keep h0 h2175 [] := Kp2164.ext E2175
 have f2214 : Fld Z h2175 a2175 "java/lang/AbstractStringBuilder" "value" "[B" .null := D2175 (Or.inl (wi hw 273 rfl)) (ty := (.array .byte)) (by decide)
 have f2215 : Fld Z h2175 a2175 "java/lang/AbstractStringBuilder" "coder" "B" (.int (0 : Int32)) := D2175 (Or.inl (wi hw 275 rfl)) (ty := .byte) (by decide)
 have f2216 : Fld Z h2175 a2175 "java/lang/AbstractStringBuilder" "count" "I" (.int (0 : Int32)) := D2175 (Or.inl (wi hw 297 rfl)) (ty := .int) (by decide)
 refine Rch.st (fun _ k => st2175 _ k) ?_
 show Rch p e below T2175 (mkF m 24 #[vR th, vR fd, vR ky] [(.ref a2175), (.ref a2134), (.ref a2134)]) _
 refine w_dup (pc' := 25) X2175 hx hby d52_24 rfl rfl ?_
 obtain ⟨_, _, ⟨T2217, L2217, k2217, n2217⟩, -, X2217, ⟨Lc2217, hQ2217, l2217, y2217, z2217⟩, st2217⟩ := X2175.specialBack hx (y := y_11) rfl hown (mvT hZ (wi hw 261 rfl)) (mvT hZ (wi hw 262 rfl)) (mvT hZ (wi hw 263 rfl)) (by decide) (backOf (W := 3) (rm_Bi l Z a0 hw [] G1 a2175 h2175 h0.size Z2212 (O2) (P5) A2175 f2214 f2215 f2216 (ge2185) Old2211) hZ (wi hw 263 rfl) (wi hw 260 rfl) (by decide) (by decide)) (g := (mkF m 25 #[vR th, vR fd, vR ky] [(.ref a2175), (.ref a2175), (.ref a2134), (.ref a2134)])) rfl (by rw [hml]; rfl) (Steps.refl _) (a := a2175) (argsL := []) (rest := [(.ref a2175), (.ref a2134), (.ref a2134)]) (lenOf pd___V rfl) rfl (by show 2 * 0 + _ ≤ _; exact Nat.le_of_eq rfl) (hb hby d52_25) (fun _ _ => ⟨rfl, e2175, (by decide : 2 + 1 ≤ _), (by decide : 10 + 16 ≤ _)⟩)
 dsimp only [Pt.U, Pt.locs, Pt.cells, Pt.slots] at X2217 l2217 y2217 z2217 st2217 hQ2217
 subst l2217 y2217 z2217
 obtain ⟨t_2217, kt_2217, rfl, NQ2217, K2217, pq2217_0, fq2217_0, fq2217_1, fq2217_2, fq2217_3⟩ := hQ2217
 have N2218 := Fr.app N2174 NQ2217
 have ne2219 := nlt f2204.lt pq2217_0
 have ne2220 := nlt A2175.lt pq2217_0
 have ne2221 := nlt f2195.lt pq2217_0
 have ne2222 := nlt f2190.lt pq2217_0
 have ne2223 := nlt f2192.lt pq2217_0
 have ne2224 := nlt f2199.lt pq2217_0
 have ne2225 := nlt f2196.lt pq2217_0
 have ne2226 := nlt f2200.lt pq2217_0
 have ne2227 := nlt f2203.lt pq2217_0
 have ge2229 : h0.size ≤ t_2217 := Nat.le_trans Z2212 pq2217_0
 have f2231 := f2189.keep K2217 (ninS ne2184 nin0)
 have f2232 := f2190.keep K2217
 have f2233 := f2191.keep K2217 (ninS ne2178 nin0)
 have f2234 := f2192.keep K2217
 have f2235 := f2193.keep K2217 (ninS ne2179 nin0)
 have f2236 := f2194.keep K2217 (ninS ne2179 nin0)
 have f2237 := f2195.keep K2217 (ninS ne2177 nin0)
 have f2238 := f2196.keep K2217
 have f2239 := f2197.keep K2217 (ninS ne2181 nin0)
 have f2240 := f2198.keep K2217 (ninS ne2181 nin0)
 have f2241 := f2199.keep K2217 (ninS ne2180 nin0)
 have f2242 := f2200.keep K2217
 have f2243 := f2201.keep K2217 (ninS ne2182 nin0)
 have f2244 := f2202.keep K2217 (ninS ne2182 nin0)
 have f2245 := f2203.keep K2217 (ninS ne2183 nin0)
 have f2246 := f2204.keep K2217
 have f2247 := f2205.keep K2217 (ninS ne2176 nin0)
 have f2248 := f2206.keep K2217 (ninS ne2176 nin0)
 have f2249 := f2207.keep K2217 (ninS ne2176 nin0)
 have f2250 := f2208.keep K2217 (ninS ne2176 nin0)
 have f2251 := f2209.keep K2217 (ninS ne2176 nin0)
 have f2252 := f2210.keep K2217 (ninS ne2176 nin0)
 have f2253 := A2175.keep K2217
 have Old2254 := Old2211.keep K2217 (allS ge2185 all0)
 have Kp2255 : Keep h0 T2217.heap [] := Kp2213.trans K2217 (allS (Or.inr (Nat.le_trans Kp2164.1 (Nat.le_of_eq g2175.symm))) all0)
 have Z2256 := Nat.le_trans Z2212 K2217.1
 have hk2257 := Nat.le_trans hk2187 K2217.1
 refine Rch.st (fun _ k => st2217.trans k) ?_
 show Rch p e below T2217 (mkF m 28 #[vR th, vR fd, vR ky] [(.ref a2175), (.ref a2134), (.ref a2134)]) _
 refine w_aloadN (pc' := 29) X2217 hx hby d52_28 rfl rfl rfl ?_
 obtain ⟨T2258, X2258, e2258, st2258⟩ := getF X2217 hx hZ hown (host := "") (Or.inl (wi hw 80 rfl)) Via.refl (rfl : T2217.heap = T2217.heap) f2231 (g := (mkF m 29 #[vR th, vR fd, vR ky] [(.ref th), (.ref a2175), (.ref a2134), (.ref a2134)])) rfl rfl (hb hby d52_29)
 refine Rch.st (fun _ k => st2258 _ k) ?_
 show Rch p e below T2258 (mkF m 32 #[vR th, vR fd, vR ky] [(.ref nm), (.ref a2175), (.ref a2134), (.ref a2134)]) _
 obtain ⟨cq2259, kq2259, q2259a, q2259b, q2259c⟩ := isOf hZ e2258 f2253
 obtain ⟨_, _, ⟨T2259, L2259, k2259, n2259⟩, -, X2259, ⟨Lc2259, hQ2259, l2259, y2259, z2259⟩, st2259⟩ := X2258.virtualBack hx (y := y_17) (z := y_17) hown (mvT hZ (wi hw 276 rfl)) (mvT hZ (wi hw 277 rfl)) (notFace_of_selects (args := #[]) (mvT hZ (wi hw 279 rfl))) (mvT hZ (wi hw 279 rfl)) (mvT hZ (wi hw 278 rfl)) (by decide) (backOf (W := 2) (rm_Bap l Z a0 hw [] G1 a2175 t_2217 kt_2217 0 ([] : List Value) nm nb knb 5 nv_ ndd T2217.heap h0.size Z2256 (O2) (P5) f2253 fq2217_0 fq2217_1 fq2217_2 fq2217_3 f2238 f2239 f2240 f2241 (by decide) (by decide) (by first | decide | (simp only [own_take_len, List.length_append, List.length_nil]; decide)) (by first | decide | (simp only [own_take_len, List.length_append, List.length_nil]; decide)) (by decide) (ge2185) (ge2229) (ne2224) (ne2181) (ne2180) ((Ne.symm ne2220)) (ne2225) Old2254) hZ (wi hw 280 rfl) (wi hw 260 rfl) (by decide) (by decide)) q2259a q2259c (g := (mkF m 32 #[vR th, vR fd, vR ky] [(.ref nm), (.ref a2175), (.ref a2134), (.ref a2134)])) rfl (by rw [hml]; rfl) (Steps.refl _) (argsL := [(.ref nm)]) (rest := [(.ref a2134), (.ref a2134)]) (lenOf pd__Ljava_lang_String__Ljava_lang_StringBuilder_ rfl) rfl (by show 2 * 0 + _ ≤ _; exact Nat.le_of_eq rfl) (hb hby d52_32) (fun _ _ => ⟨rfl, e2258, (by decide : 3 + 0 ≤ _), (by decide : 26 + 0 ≤ _)⟩)
 dsimp only [Pt.U, Pt.locs, Pt.cells, Pt.slots] at X2259 l2259 y2259 z2259 st2259 hQ2259
 subst l2259 y2259 z2259
 obtain ⟨rfl, NQ2259, K2259, fq2259_0, fq2259_1, fq2259_2, fq2259_3⟩ := hQ2259
 have N2260 := Fr.app N2218 NQ2259
 have f2263 := f2232.keep K2259
 have f2264 := f2233.keep K2259 (ninS ne2178 (ninS ne2222 nin0))
 have f2265 := f2234.keep K2259
 have f2266 := f2235.keep K2259 (ninS ne2179 (ninS ne2223 nin0))
 have f2267 := f2236.keep K2259 (ninS ne2179 (ninS ne2223 nin0))
 have f2268 := f2237.keep K2259 (ninS ne2177 (ninS ne2221 nin0))
 have f2273 := f2242.keep K2259
 have f2274 := f2243.keep K2259 (ninS ne2182 (ninS ne2226 nin0))
 have f2275 := f2244.keep K2259 (ninS ne2182 (ninS ne2226 nin0))
 have f2276 := f2245.keep K2259 (ninS ne2183 (ninS ne2227 nin0))
 have f2277 := f2246.keep K2259
 have f2278 := f2247.keep K2259 (ninS ne2176 (ninS ne2219 nin0))
 have f2279 := f2248.keep K2259 (ninS ne2176 (ninS ne2219 nin0))
 have f2280 := f2249.keep K2259 (ninS ne2176 (ninS ne2219 nin0))
 have f2281 := f2250.keep K2259 (ninS ne2176 (ninS ne2219 nin0))
 have f2282 := f2251.keep K2259 (ninS ne2176 (ninS ne2219 nin0))
 have f2283 := f2252.keep K2259 (ninS ne2176 (ninS ne2219 nin0))
 have f2284 := f2253.keep K2259
 have Old2285 := Old2254.keep K2259 (allS ge2185 (allS ge2229 all0))
 have Kp2286 : Keep h0 T2259.heap [] := Kp2255.trans K2259 (allS (Or.inr (Nat.le_trans Kp2164.1 (Nat.le_of_eq g2175.symm))) (allS (Or.inr (Nat.le_trans Kp2213.1 pq2217_0)) all0))
 have Z2287 := Nat.le_trans Z2256 K2259.1
 have hk2288 := Nat.le_trans hk2257 K2259.1
 refine Rch.st (fun _ k => st2259.trans k) ?_
 show Rch p e below T2259 (mkF m 35 #[vR th, vR fd, vR ky] [(.ref a2175), (.ref a2134), (.ref a2134)]) _
 have st2289 := ldcAgain (s := s) (vm0 := s.vm) X2259 hx hZ hown (wi hw 323 rfl) hLi0 (g := (mkF m 35 #[vR th, vR fd, vR ky] [(.ref a2175), (.ref a2134), (.ref a2134)])) rfl (hb hby d52_35)
 refine Rch.st (fun _ k => st2289 _ k) ?_
 show Rch p e below T2259 (mkF m 37 #[vR th, vR fd, vR ky] [(.ref sa), (.ref a2175), (.ref a2134), (.ref a2134)]) _
 obtain ⟨cq2290, kq2290, q2290a, q2290b, q2290c⟩ := isOf hZ (rfl : T2259.heap = T2259.heap) f2284
 obtain ⟨_, _, ⟨T2290, L2290, k2290, n2290⟩, -, X2290, ⟨Lc2290, hQ2290, l2290, y2290, z2290⟩, st2290⟩ := X2259.virtualBack hx (y := y_17) (z := y_17) hown (mvT hZ (wi hw 276 rfl)) (mvT hZ (wi hw 277 rfl)) (notFace_of_selects (args := #[]) (mvT hZ (wi hw 279 rfl))) (mvT hZ (wi hw 279 rfl)) (mvT hZ (wi hw 278 rfl)) (by decide) (backOf (W := 2) (rm_Bap l Z a0 hw [] G1 a2175 t_2217 kt_2217 ((0 : Int32) + (5 : Int32)) (([] : List Value) ++ own_take nv_ ndd (5 : Int32).toNatClampNeg) sa sbb ksb 1 ([(.int 46)]) (.int 0) T2259.heap h0.size Z2287 (O2) (P5) f2284 fq2259_0 fq2259_1 fq2259_2 fq2259_3 f2273 f2274 f2275 f2276 (by decide) (by decide) (by first | decide | (simp only [own_take_len, List.length_append, List.length_nil]; decide)) (by first | decide | (simp only [own_take_len, List.length_append, List.length_nil]; decide)) (by decide) (ge2185) (ge2229) (ne2227) (ne2182) (ne2183) ((Ne.symm ne2220)) (ne2226) Old2285) hZ (wi hw 280 rfl) (wi hw 260 rfl) (by decide) (by decide)) q2290a q2290c (g := (mkF m 37 #[vR th, vR fd, vR ky] [(.ref sa), (.ref a2175), (.ref a2134), (.ref a2134)])) rfl (by rw [hml]; rfl) (Steps.refl _) (argsL := [(.ref sa)]) (rest := [(.ref a2134), (.ref a2134)]) (lenOf pd__Ljava_lang_String__Ljava_lang_StringBuilder_ rfl) rfl (by show 2 * 0 + _ ≤ _; exact Nat.le_of_eq rfl) (hb hby d52_37) (fun _ _ => ⟨rfl, (rfl : T2259.heap = T2259.heap), (by decide : 3 + 0 ≤ _), (by decide : 26 + 0 ≤ _)⟩)
 dsimp only [Pt.U, Pt.locs, Pt.cells, Pt.slots] at X2290 l2290 y2290 z2290 st2290 hQ2290
 subst l2290 y2290 z2290
 obtain ⟨rfl, NQ2290, K2290, fq2290_0, fq2290_1, fq2290_2, fq2290_3⟩ := hQ2290
 have N2291 := Fr.app N2260 NQ2290
 have f2294 := f2263.keep K2290
 have f2295 := f2264.keep K2290 (ninS ne2178 (ninS ne2222 nin0))
 have f2296 := f2265.keep K2290
 have f2297 := f2266.keep K2290 (ninS ne2179 (ninS ne2223 nin0))
 have f2298 := f2267.keep K2290 (ninS ne2179 (ninS ne2223 nin0))
 have f2299 := f2268.keep K2290 (ninS ne2177 (ninS ne2221 nin0))
 have f2308 := f2277.keep K2290
 have f2309 := f2278.keep K2290 (ninS ne2176 (ninS ne2219 nin0))
 have f2310 := f2279.keep K2290 (ninS ne2176 (ninS ne2219 nin0))
 have f2311 := f2280.keep K2290 (ninS ne2176 (ninS ne2219 nin0))
 have f2312 := f2281.keep K2290 (ninS ne2176 (ninS ne2219 nin0))
 have f2313 := f2282.keep K2290 (ninS ne2176 (ninS ne2219 nin0))
 have f2314 := f2283.keep K2290 (ninS ne2176 (ninS ne2219 nin0))
 have f2315 := f2284.keep K2290
 have Old2316 := Old2285.keep K2290 (allS ge2185 (allS ge2229 all0))
 have Kp2317 : Keep h0 T2290.heap [] := Kp2286.trans K2290 (allS (Or.inr (Nat.le_trans Kp2164.1 (Nat.le_of_eq g2175.symm))) (allS (Or.inr (Nat.le_trans Kp2213.1 pq2217_0)) all0))
 have Z2318 := Nat.le_trans Z2287 K2290.1
 have hk2319 := Nat.le_trans hk2288 K2290.1
 refine Rch.st (fun _ k => st2290.trans k) ?_
 show Rch p e below T2290 (mkF m 40 #[vR th, vR fd, vR ky] [(.ref a2175), (.ref a2134), (.ref a2134)]) _
 refine w_aloadN (pc' := 41) X2290 hx hby d52_40 rfl rfl rfl ?_
 obtain ⟨cq2320, kq2320, q2320a, q2320b, q2320c⟩ := isOf hZ (rfl : T2290.heap = T2290.heap) f2294
 obtain ⟨_, _, ⟨T2320, L2320, k2320, n2320⟩, -, X2320, ⟨Lc2320, hQ2320, l2320, y2320, z2320⟩, st2320⟩ := X2290.virtualBack hx (y := y_40) (z := y_40) hown (mvT hZ (wi hw 199 rfl)) (mvT hZ (wi hw 200 rfl)) (notFace_of_selects (args := #[]) (mvT hZ (wi hw 202 rfl))) (mvT hZ (wi hw 202 rfl)) (mvT hZ (wi hw 201 rfl)) (by decide) (backOf (W := 3) (rm_nm l Z a0 hw [] fd fs T2290.heap h0.size Z2318 f2295) hZ (wi hw 203 rfl) (wi hw 109 rfl) (by decide) (by decide)) q2320a q2320c (g := (mkF m 41 #[vR th, vR fd, vR ky] [(.ref fd), (.ref a2175), (.ref a2134), (.ref a2134)])) rfl (by rw [hml]; rfl) (Steps.refl _) (argsL := []) (rest := [(.ref a2175), (.ref a2134), (.ref a2134)]) (lenOf pd___Ljava_lang_String_ rfl) rfl (by show 2 * 0 + _ ≤ _; exact Nat.le_of_eq rfl) (hb hby d52_41) (fun _ _ => ⟨rfl, (rfl : T2290.heap = T2290.heap), (by decide : 3 + 0 ≤ _), (by decide : 26 + 0 ≤ _)⟩)
 dsimp only [Pt.U, Pt.locs, Pt.cells, Pt.slots] at X2320 l2320 y2320 z2320 st2320 hQ2320
 subst l2320 y2320 z2320
 obtain ⟨rfl, NQ2320, K2320⟩ := hQ2320
 have N2321 := Fr.app N2291 NQ2320
 refine Rch.st (fun _ k => st2320.trans k) ?_
 show Rch p e below T2320 (mkF m 44 #[vR th, vR fd, vR ky] [(.ref fs), (.ref a2175), (.ref a2134), (.ref a2134)]) _
 obtain ⟨cq2322, kq2322, q2322a, q2322b, q2322c⟩ := isOf hZ K2320 f2315
 obtain ⟨_, _, ⟨T2322, L2322, k2322, n2322⟩, -, X2322, ⟨Lc2322, hQ2322, l2322, y2322, z2322⟩, st2322⟩ := X2320.virtualBack hx (y := y_17) (z := y_17) hown (mvT hZ (wi hw 276 rfl)) (mvT hZ (wi hw 277 rfl)) (notFace_of_selects (args := #[]) (mvT hZ (wi hw 279 rfl))) (mvT hZ (wi hw 279 rfl)) (mvT hZ (wi hw 278 rfl)) (by decide) (backOf (W := 2) (rm_Bap l Z a0 hw [] G1 a2175 t_2217 kt_2217 (((0 : Int32) + (5 : Int32)) + (1 : Int32)) ((([] : List Value) ++ own_take nv_ ndd (5 : Int32).toNatClampNeg) ++ own_take ([(.int 46)]) (.int 0) (1 : Int32).toNatClampNeg) fs fb kfb 2 fv fdd T2290.heap h0.size Z2318 (O2) (P5) f2315 fq2290_0 fq2290_1 fq2290_2 fq2290_3 f2296 f2297 f2298 f2299 (by decide) (by decide) (by first | decide | (simp only [own_take_len, List.length_append, List.length_nil]; decide)) (by first | decide | (simp only [own_take_len, List.length_append, List.length_nil]; decide)) (by decide) (ge2185) (ge2229) (ne2221) (ne2179) (ne2177) ((Ne.symm ne2220)) (ne2223) Old2316) hZ (wi hw 280 rfl) (wi hw 260 rfl) (by decide) (by decide)) q2322a q2322c (g := (mkF m 44 #[vR th, vR fd, vR ky] [(.ref fs), (.ref a2175), (.ref a2134), (.ref a2134)])) rfl (by rw [hml]; rfl) (Steps.refl _) (argsL := [(.ref fs)]) (rest := [(.ref a2134), (.ref a2134)]) (lenOf pd__Ljava_lang_String__Ljava_lang_StringBuilder_ rfl) rfl (by show 2 * 0 + _ ≤ _; exact Nat.le_of_eq rfl) (hb hby d52_44) (fun _ _ => ⟨rfl, K2320, (by decide : 3 + 0 ≤ _), (by decide : 26 + 0 ≤ _)⟩)
 dsimp only [Pt.U, Pt.locs, Pt.cells, Pt.slots] at X2322 l2322 y2322 z2322 st2322 hQ2322
 subst l2322 y2322 z2322
 obtain ⟨rfl, NQ2322, K2322, fq2322_0, fq2322_1, fq2322_2, fq2322_3⟩ := hQ2322
 have N2323 := Fr.app N2321 NQ2322
 have f2340 := f2308.keep K2322
 have f2341 := f2309.keep K2322 (ninS ne2176 (ninS ne2219 nin0))
 have f2342 := f2310.keep K2322 (ninS ne2176 (ninS ne2219 nin0))
 have f2343 := f2311.keep K2322 (ninS ne2176 (ninS ne2219 nin0))
 have f2344 := f2312.keep K2322 (ninS ne2176 (ninS ne2219 nin0))
 have f2345 := f2313.keep K2322 (ninS ne2176 (ninS ne2219 nin0))
 have f2346 := f2314.keep K2322 (ninS ne2176 (ninS ne2219 nin0))
 have f2347 := f2315.keep K2322
 have Old2348 := Old2316.keep K2322 (allS ge2185 (allS ge2229 all0))
 have Kp2349 : Keep h0 T2322.heap [] := Kp2317.trans K2322 (allS (Or.inr (Nat.le_trans Kp2164.1 (Nat.le_of_eq g2175.symm))) (allS (Or.inr (Nat.le_trans Kp2213.1 pq2217_0)) all0))
 have Z2350 := Nat.le_trans Z2318 K2322.1
 have hk2351 := Nat.le_trans hk2319 K2322.1
 refine Rch.st (fun _ k => st2322.trans k) ?_
 show Rch p e below T2322 (mkF m 47 #[vR th, vR fd, vR ky] [(.ref a2175), (.ref a2134), (.ref a2134)]) _
 obtain ⟨cq2352, kq2352, q2352a, q2352b, q2352c⟩ := isOf hZ (rfl : T2322.heap = T2322.heap) f2347
 obtain ⟨_, _, ⟨T2352, L2352, k2352, n2352⟩, -, X2352, ⟨Lc2352, hQ2352, l2352, y2352, z2352⟩, st2352⟩ := X2322.virtualBack hx (y := y_24) (z := y_24) hown (mvT hZ (wi hw 324 rfl)) (mvT hZ (wi hw 325 rfl)) (notFace_of_selects (args := #[]) (mvT hZ (wi hw 327 rfl))) (mvT hZ (wi hw 327 rfl)) (mvT hZ (wi hw 326 rfl)) (by decide) (backOf (W := 2) (rm_ts l Z a0 hw [] G1 a2175 t_2217 kt_2217 ((((0 : Int32) + (5 : Int32)) + (1 : Int32)) + (2 : Int32)) (((([] : List Value) ++ own_take nv_ ndd (5 : Int32).toNatClampNeg) ++ own_take ([(.int 46)]) (.int 0) (1 : Int32).toNatClampNeg) ++ own_take fv fdd (2 : Int32).toNatClampNeg) T2322.heap h0.size Z2350 (O2) (P5) f2347 fq2322_0 fq2322_1 fq2322_2 fq2322_3 (by decide) (by decide) (by decide) (by decide) (by decide) Old2348) hZ (wi hw 328 rfl) (wi hw 260 rfl) (by decide) (by decide)) q2352a q2352c (g := (mkF m 47 #[vR th, vR fd, vR ky] [(.ref a2175), (.ref a2134), (.ref a2134)])) rfl (by rw [hml]; rfl) (Steps.refl _) (argsL := []) (rest := [(.ref a2134), (.ref a2134)]) (lenOf pd___Ljava_lang_String_ rfl) rfl (by show 2 * 0 + _ ≤ _; exact Nat.le_of_eq rfl) (hb hby d52_47) (fun _ _ => ⟨rfl, (rfl : T2322.heap = T2322.heap), (by decide : 3 + 2 ≤ _), (by decide : 26 + 20 ≤ _)⟩)
 dsimp only [Pt.U, Pt.locs, Pt.cells, Pt.slots] at X2352 l2352 y2352 z2352 st2352 hQ2352
 subst l2352 y2352 z2352
 obtain ⟨ra_2352, t_2352, kt_2352, rfl, NQ2352, K2352, pq2352_0, pq2352_1, fq2352_0, fq2352_1, fq2352_2, fq2352_3⟩ := hQ2352
 have N2353 := Fr.app N2323 NQ2352
 have ne2354 := nlt f2340.lt pq2352_0
 have ne2366 := nlt f2340.lt pq2352_1
 have f2394 := f2340.keep K2352
 have f2395 := f2341.keep K2352 nin0
 have f2396 := f2342.keep K2352 nin0
 have f2397 := f2343.keep K2352 nin0
 have f2398 := f2344.keep K2352 nin0
 have f2399 := f2345.keep K2352 nin0
 have f2400 := f2346.keep K2352 nin0
 have Old2406 := Old2348.keep K2352 all0
 have Kp2407 : Keep h0 T2352.heap [] := Kp2349.trans K2352 all0
 have Z2408 := Nat.le_trans Z2350 K2352.1
 have hk2409 := Nat.le_trans hk2351 K2352.1
 refine Rch.st (fun _ k => st2352.trans k) ?_
 show Rch p e below T2352 (mkF m 50 #[vR th, vR fd, vR ky] [(.ref ra_2352), (.ref a2134), (.ref a2134)]) _
 refine w_aconstNull (pc' := 51) X2352 hx hby d52_50 rfl ?_
 refine w_aconstNull (pc' := 52) X2352 hx hby d52_51 rfl ?_
 refine w_aloadN (pc' := 53) X2352 hx hby d52_52 rfl rfl rfl ?_
 obtain ⟨tv2410, f2411⟩ : ∃ tv, Arv Z T2352.heap t_2352 kt_2352 .byte (8 : Int32) tv (.int (0 : Int32)) := by have z := fq2352_3; rw [show ((((0 : Int32) + (5 : Int32)) + (1 : Int32)) + (2 : Int32)) = (8 : Int32) from by decide] at z; exact ⟨_, z⟩
 obtain ⟨_, _, ⟨T2412, L2412, k2412, n2412⟩, -, X2412, ⟨Lc2412, hQ2412, l2412, y2412, z2412⟩, st2412⟩ := X2352.specialBack hx (y := y_36) rfl hown (mvT hZ (wi hw 40 rfl)) (mvT hZ (wi hw 41 rfl)) (mvT hZ (wi hw 42 rfl)) (by decide) (backOf (W := 1) (rm_v4 l Z a0 hw [] G6 a2134 ra_2352 .null .null (.ref th) T2352.heap h0.size Z2408 (O6) f2394 f2395 f2396 f2397 f2398 f2399 f2400 (ge2143) (rfl) (rfl) (rfl) Old2406) hZ (wi hw 42 rfl) (wi hw 36 rfl) (by decide) (by decide)) (g := (mkF m 53 #[vR th, vR fd, vR ky] [(.ref th), .null, .null, (.ref ra_2352), (.ref a2134), (.ref a2134)])) rfl (by rw [hml]; rfl) (Steps.refl _) (a := a2134) (argsL := [(.ref ra_2352), .null, .null, (.ref th)]) (rest := [(.ref a2134)]) (lenOf pd__Ljava_lang_String_Lcom_example_mandoline_mandoline_ClangNode_Ljava_lang_String_Lcom_example_mandoline_mandoline_Variable__V rfl) rfl (by show 2 * 0 + _ ≤ _; exact Nat.le_of_eq rfl) (hb hby d52_53) (fun _ _ => ⟨rfl, (rfl : T2352.heap = T2352.heap), (by decide : 5 + 1 ≤ _), (by decide : 46 + 12 ≤ _)⟩)
 dsimp only [Pt.U, Pt.locs, Pt.cells, Pt.slots] at X2412 l2412 y2412 z2412 st2412 hQ2412
 subst l2412 y2412 z2412
 obtain ⟨m2_2412, rfl, NQ2412, K2412, pq2412_0, fq2412_0, fq2412_1, fq2412_2, fq2412_3, fq2412_4, fq2412_5, fq2412_6, fq2412_7, fq2412_8, fq2412_9, fq2412_10, fq2412_11, fq2412_12⟩ := hQ2412
 have N2413 := Fr.app N2353 NQ2412
 have f2444 := f2394.keep K2412
 have f2450 := fq2352_0.keep K2412
 have f2451 := fq2352_1.keep K2412 (ninS (Ne.symm ne2354) nin0)
 have f2452 := fq2352_2.keep K2412 (ninS (Ne.symm ne2354) nin0)
 have f2453 := f2411.keep K2412 (ninS (Ne.symm ne2366) nin0)
 have Kp2455 : Keep h0 T2412.heap [] := Kp2407.trans K2412 (allS (Or.inr (Nat.le_trans K00.1 (Nat.le_of_eq g2134.symm))) all0)
 have hk2457 := Nat.le_trans hk2409 K2412.1
 refine Rch.st (fun _ k => st2412.trans k) ?_
 show Rch p e below T2412 (mkF m 56 #[vR th, vR fd, vR ky] [(.ref a2134)]) _
 exact Rch.retVW X2412 hx hS0 (by rw [(rfl : T2412.heap = T2412.heap)]; exact hk2457) Bd.returns rfl (Or.inr (Or.inr (Or.inr (Or.inr ⟨rfl, rfl, rfl⟩)))) (hb hby d52_56) (by rw [(rfl : T2412.heap = T2412.heap)]; exact ⟨a2134, m2_2412, ra_2352, t_2352, kt_2352, tv2410, rfl, (own_Fr Z0 N2413), Kp2455, (Nat.le_trans K00.1 (Nat.le_of_eq g2134.symm)), (Nat.le_trans Kp2407.1 pq2412_0), (Nat.le_trans Kp2349.1 pq2352_0), (Nat.le_trans Kp2349.1 pq2352_1), f2444, fq2412_0, fq2412_1, fq2412_3, fq2412_5, fq2412_6, fq2412_7, fq2412_8, fq2412_9, fq2412_10, fq2412_11, fq2412_12, f2450, f2451, f2452, f2453, own_ib_mono (own_ib (s := s.setVm s.vm) hI X2412.warmed) (by decide)⟩) (by decide) (by decide)

theorem ef_rm_ci_n2 (m : MethodId) (G1 : Int32) (G6 : Addr) (th : Addr) (nm : Addr) (fd : Addr) (fs : Addr) (fb : Addr) (kfb : ClassId) (fv : List Value) (fdd : Value) (nb : Addr) (knb : ClassId) (nv_ : List Value) (ndd : Value) (sa : Addr) (sbb : Addr) (ksb : ClassId) (ky : Addr) (kb : Addr) (kkb : ClassId) (b0 : Int32) (b1 : Int32) (hv : Int32) (hz : Int32) (mp : Addr) (fo : Addr) (cK : ClassId)  : entryFrame m #[(.ref mp), (.ref ky), (.ref fo)] 13 = mkF m 0 #[vR mp, vR ky, vR fo, U, U, U, U, U, U, U, U, U, U] [] := by  first | (simp [entryFrame, mkF, argsToLocals, Value.category, maxLocals]; done) | rfl
def Q_rm_ci_n2 (Z : State) (G1 : Int32) (G6 : Addr) (th : Addr) (nm : Addr) (fd : Addr) (fs : Addr) (fb : Addr) (kfb : ClassId) (fv : List Value) (fdd : Value) (nb : Addr) (knb : ClassId) (nv_ : List Value) (ndd : Value) (sa : Addr) (sbb : Addr) (ksb : ClassId) (ky : Addr) (kb : Addr) (kkb : ClassId) (b0 : Int32) (b1 : Int32) (hv : Int32) (hz : Int32) (mp : Addr) (fo : Addr) (cK : ClassId) (h0 : Heap) (n0 : Nat) (v : Option Value) (h : Heap) (vm : Vm) (L : List Loc) : Prop := ∃ (nv : Addr) (m2 : Addr) (ns : Addr) (ts : Addr) (kts : ClassId) (tv : List Value) (x2 : Int32) (y2 : Int32), (v = some (.ref nv)) ∧ (Fr n0 L) ∧ (Keep h0 h [mp, ky]) ∧ (h0.size ≤ nv) ∧ (h0.size ≤ m2) ∧ (h0.size ≤ ns) ∧ (h0.size ≤ ts) ∧ (Exa Z h nv "com/example/mandoline/mandoline/Variable") ∧ (Fld Z h nv "com/example/mandoline/mandoline/Variable" "fields" "Ljava/util/Map;" (.ref m2)) ∧ (Fld Z h nv "com/example/mandoline/mandoline/Variable" "name" "Ljava/lang/String;" (.ref ns)) ∧ (Fld Z h nv "com/example/mandoline/mandoline/Variable" "containing" "Lcom/example/mandoline/mandoline/Variable;" (.ref th)) ∧ (Exa Z h m2 "java/util/LinkedHashMap") ∧ (Fld Z h m2 "java/util/HashMap" "table" "[Ljava/util/HashMap$Node;" .null) ∧ (Fld Z h m2 "java/util/HashMap" "size" "I" (.int (0 : Int32))) ∧ (Fld Z h m2 "java/util/HashMap" "modCount" "I" (.int (0 : Int32))) ∧ (Fld Z h m2 "java/util/HashMap" "threshold" "I" (.int (0 : Int32))) ∧ (Fld Z h m2 "java/util/LinkedHashMap" "putMode" "I" (.int (0 : Int32))) ∧ (Fld Z h m2 "java/util/LinkedHashMap" "head" "Ljava/util/LinkedHashMap$Entry;" .null) ∧ (Fld Z h m2 "java/util/LinkedHashMap" "tail" "Ljava/util/LinkedHashMap$Entry;" .null) ∧ (Exa Z h ns "java/lang/String") ∧ (Fld Z h ns "java/lang/String" "coder" "B" (.int (0 : Int32))) ∧ (Fld Z h ns "java/lang/String" "value" "[B" (.ref ts)) ∧ (Arv Z h ts kts .byte (8 : Int32) tv (.int (0 : Int32))) ∧ (Fld Z h ky "java/lang/String" "coder" "B" (.int (0 : Int32))) ∧ (Fld Z h ky "java/lang/String" "value" "[B" (.ref kb)) ∧ (Fld Z h ky "java/lang/String" "hash" "I" (.int x2)) ∧ (Fld Z h ky "java/lang/String" "hashIsZero" "Z" (.int y2)) ∧ (IB Z vm (["."] : List String))
set_option maxRecDepth 65536 in
set_option maxHeartbeats 40000000 in
theorem rm_ci_n2 (l : Launch) (Z : State) (a0 : Array Value) (hw : ∀ d ∈ tables_1, d.before a0 Z = true) (ws : List Jvm.Cond) (G1 : Int32) (G6 : Addr) (th : Addr) (nm : Addr) (fd : Addr) (fs : Addr) (fb : Addr) (kfb : ClassId) (fv : List Value) (fdd : Value) (nb : Addr) (knb : ClassId) (nv_ : List Value) (ndd : Value) (sa : Addr) (sbb : Addr) (ksb : ClassId) (ky : Addr) (kb : Addr) (kkb : ClassId) (b0 : Int32) (b1 : Int32) (hv : Int32) (hz : Int32) (mp : Addr) (fo : Addr) (cK : ClassId) (h0 : Heap) (n0 : Nat) (Z0 : n0 ≤ h0.size) (O2 : Sta Z Z.heap "java/lang/String" "COMPACT_STRINGS" "Z" (.int G1)) (P5 : ¬ G1 = 0) (O6 : Sta Z Z.heap "java/util/ImmutableCollections" "EMPTY_LIST" "Ljava/util/ImmutableCollections$ListN;" (.ref G6)) (f3 : Exa Z h0 th "com/example/mandoline/mandoline/Variable") (f4 : Fld Z h0 th "com/example/mandoline/mandoline/Variable" "name" "Ljava/lang/String;" (.ref nm)) (f5 : Exa Z h0 fd "com/example/mandoline/mandoline/Place$Field") (f6 : Fld Z h0 fd "com/example/mandoline/mandoline/Place$Field" "name" "Ljava/lang/String;" (.ref fs)) (f7 : Exa Z h0 fs "java/lang/String") (f8 : Fld Z h0 fs "java/lang/String" "coder" "B" (.int (0 : Int32))) (f9 : Fld Z h0 fs "java/lang/String" "value" "[B" (.ref fb)) (f10 : Arv Z h0 fb kfb .byte (2 : Int32) fv fdd) (f11 : Exa Z h0 nm "java/lang/String") (f12 : Fld Z h0 nm "java/lang/String" "coder" "B" (.int (0 : Int32))) (f13 : Fld Z h0 nm "java/lang/String" "value" "[B" (.ref nb)) (f14 : Arv Z h0 nb knb .byte (5 : Int32) nv_ ndd) (f15 : Exa Z h0 sa "java/lang/String") (f16 : Fld Z h0 sa "java/lang/String" "coder" "B" (.int (0 : Int32))) (f17 : Fld Z h0 sa "java/lang/String" "value" "[B" (.ref sbb)) (f18 : Arv Z h0 sbb ksb .byte (1 : Int32) [(.int (46 : Int32))] (.int (0 : Int32))) (f19 : Exa Z h0 ky "java/lang/String") (f20 : Fld Z h0 ky "java/lang/String" "coder" "B" (.int (0 : Int32))) (f21 : Fld Z h0 ky "java/lang/String" "value" "[B" (.ref kb)) (f22 : Fld Z h0 ky "java/lang/String" "hash" "I" (.int hv)) (f23 : Fld Z h0 ky "java/lang/String" "hashIsZero" "Z" (.int hz)) (f24 : Arv Z h0 kb kkb .byte (2 : Int32) [(.int b0), (.int b1)] (.int (0 : Int32))) (f25 : Exa Z h0 kb "[B") (f26 : Exa Z h0 mp "java/util/LinkedHashMap") (f27 : Fld Z h0 mp "java/util/HashMap" "table" "[Ljava/util/HashMap$Node;" .null) (f28 : Fld Z h0 mp "java/util/HashMap" "size" "I" (.int (0 : Int32))) (f29 : Fld Z h0 mp "java/util/HashMap" "modCount" "I" (.int (0 : Int32))) (f30 : Fld Z h0 mp "java/util/HashMap" "threshold" "I" (.int (0 : Int32))) (f31 : Fld Z h0 mp "java/util/LinkedHashMap" "putMode" "I" (.int (0 : Int32))) (f32 : Fld Z h0 mp "java/util/LinkedHashMap" "head" "Ljava/util/LinkedHashMap$Entry;" .null) (f33 : Fld Z h0 mp "java/util/LinkedHashMap" "tail" "Ljava/util/LinkedHashMap$Entry;" .null) (f34 : Lam h0 fo cK (.ref th) (.ref fd)) (hmd : LamKit.Made Z "com/example/mandoline/mandoline/Variable" own_sg cK) (gm : n0 ≤ mp) (gk : n0 ≤ ky) (nfk : fo ≠ ky) (nfm : fo ≠ mp) (qs1 : fs ≠ ky) (qs2 : nm ≠ ky) (Old0 : OldL Z n0 h0) :
    MetW l Z y_55 c53 13 (some (.object "java/lang/Object")) ws (Rm 8 8 80 120) #[(.ref mp), (.ref ky), (.ref fo)] h0 (fun vm => IB Z vm (["."] : List String) ∧ Lit (Z.setVm vm) "com/example/mandoline/mandoline/Variable" 131 sa) (Q_rm_ci_n2 Z G1 G6 th nm fd fs fb kfb fv fdd nb knb nv_ ndd sa sbb ksb ky kb kkb b0 b1 hv hz mp fo cK h0 n0) := by
 refine MetFree.of_bodySF (plainFor_of_name pn_java_util_HashMap) hisR ?_
 intro p e s m args below meth c s₁ Bd hml0 hP hK
 obtain ⟨rfl, hZ, hh, hI, hLi0⟩ := hP
 have hx := Bd.exec
 have hby := Bd.bytes
 have hml : c.maxLocals = 13 := hml0
 have hown : s.vm.findClass "java/util/HashMap" = some m.cls := findClass_of_methodNamed Bd.named
 have X0 : Stand p l e (Rm 8 8 80 120) (s.setVm s.vm) m #[(.ref mp), (.ref ky), (.ref fo)] below meth c s₁ [] 0 0 := Stand.of_body Bd
 have e0 : s₁.heap = h0 := by rw [← hh, Bd.state]; rfl
 have N0 := Fr.nil n0
 have K00 : Keep h0 h0 [mp, ky] := Keep.refl _ _
 have hS0 : s.Since s.vm s.heap.size := (State.WarmedH.refl s).since _
 have hk0 : s.heap.size ≤ h0.size := by rw [hh]; exact Nat.le_refl _
 have hkeep : ∀ (b : Addr) (cl : Cell), Z.heap[b]? = some cl → s.heap[b]? = some cl := by rw [hh]; exact Old0.2.2
 show Rch p e below s₁ (entryFrame m #[(.ref mp), (.ref ky), (.ref fo)] 13) (FinW s (Q_rm_ci_n2 Z G1 G6 th nm fd fs fb kfb fv fdd nb knb nv_ ndd sa sbb ksb ky kb kkb b0 b1 hv hz mp fo cK h0 n0) 8 80)
 refine Rch.cast (ef_rm_ci_n2 m G1 G6 th nm fd fs fb kfb fv fdd nb knb nv_ ndd sa sbb ksb ky kb kkb b0 b1 hv hz mp fo cK) ?_
 show Rch p e below s₁ (mkF m 0 #[vR mp, vR ky, vR fo, U, U, U, U, U, U, U, U, U, U] []) _
 refine w_aloadN (pc' := 1) X0 hx hby d53_0 rfl rfl rfl ?_
 refine w_nonnullYes (pc' := 12) X0 hx hby d53_1 rfl (fun q => nomatch q) (by decide) ?_
 refine w_aloadN (pc' := 13) X0 hx hby d53_12 rfl rfl rfl ?_
 obtain ⟨_, _, ⟨T2458, L2458, k2458, n2458⟩, -, X2458, ⟨Lc2458, hQ2458, l2458, y2458, z2458⟩, st2458⟩ := Jvm.LawKit.callS X0 hx (y := y_46) hown (mvT hZ (wi hw 146 rfl)) (mvT hZ (wi hw 147 rfl)) (mvT hZ (wi hw 54 rfl)) (mvT hZ (wi hw 148 rfl)) (by decide) (backOf (W := 0) (rm_hash l Z a0 hw [] G1 ky kb kkb b0 b1 hv hz h0 n0 Z0 (O2) (P5) f19 f20 f21 f22 f23 f24 f25 (gk) Old0) hZ (wi hw 148 rfl) (wi hw 54 rfl) (by decide) (by decide)) (g := (mkF m 13 #[vR mp, vR ky, vR fo, U, U, U, U, U, U, U, U, U, U] [(.ref ky)])) rfl (by rw [hml]; rfl) (argsL := [(.ref ky)]) (rest := []) (lenOf pd__Ljava_lang_Object__I rfl) rfl (by show 2 * 0 + _ ≤ _; exact Nat.le_of_eq rfl) (hb hby d53_13) (fun _ _ => ⟨rfl, e0, (by decide : 0 + 0 ≤ _), (by decide : 0 + 0 ≤ _)⟩)
 dsimp only [Pt.U, Pt.locs, Pt.cells, Pt.slots] at X2458 l2458 y2458 z2458 st2458 hQ2458
 subst l2458 y2458 z2458
 obtain ⟨r_2458, x2_2458, y2_2458, rfl, NQ2458, K2458, pq2458_0, pq2458_1, fq2458_0, fq2458_1, fq2458_2, fq2458_3⟩ := hQ2458
 have N2459 := Fr.app N0 NQ2458
 have f2460 := f3.keep K2458
 have ne2461 : th ≠ ky := ne_exa f3 f19 (by decide)
 have f2462 := f4.keep K2458 (ninS ne2461 nin0)
 have f2463 := f5.keep K2458
 have ne2464 : fd ≠ ky := ne_exa f5 f19 (by decide)
 have f2465 := f6.keep K2458 (ninS ne2464 nin0)
 have f2466 := f7.keep K2458
 have f2467 := f8.keep K2458 (ninS qs1 nin0)
 have f2468 := f9.keep K2458 (ninS qs1 nin0)
 have ne2469 : fb ≠ ky := Ne.symm (Exa.neArv f19 f10 (wi hw 6 rfl))
 have f2470 := f10.keep K2458 (ninS ne2469 nin0)
 have f2471 := f11.keep K2458
 have f2472 := f12.keep K2458 (ninS qs2 nin0)
 have f2473 := f13.keep K2458 (ninS qs2 nin0)
 have ne2474 : nb ≠ ky := Ne.symm (Exa.neArv f19 f14 (wi hw 6 rfl))
 have f2475 := f14.keep K2458 (ninS ne2474 nin0)
 have f2476 := f15.keep K2458
 have ne2477 : sbb ≠ kb := own_neLen f18 f24 (by decide)
 have ne2478 : sa ≠ ky := Fld.ne f17 f21 (fun q => ne2477 (Value.ref.inj q))
 have f2479 := f16.keep K2458 (ninS ne2478 nin0)
 have f2480 := f17.keep K2458 (ninS ne2478 nin0)
 have ne2481 : sbb ≠ ky := Ne.symm (Exa.neArv f19 f18 (wi hw 6 rfl))
 have f2482 := f18.keep K2458 (ninS ne2481 nin0)
 have f2483 := f19.keep K2458
 have f2487 := f26.keep K2458
 have ne2488 : mp ≠ ky := ne_exa f26 f19 (by decide)
 have f2489 := f27.keep K2458 (ninS ne2488 nin0)
 have f2490 := f28.keep K2458 (ninS ne2488 nin0)
 have f2491 := f29.keep K2458 (ninS ne2488 nin0)
 have f2492 := f30.keep K2458 (ninS ne2488 nin0)
 have f2493 := f31.keep K2458 (ninS ne2488 nin0)
 have f2494 := f32.keep K2458 (ninS ne2488 nin0)
 have f2495 := f33.keep K2458 (ninS ne2488 nin0)
 have f2496 := f34.keep K2458 (ninS nfk nin0)
 have Old2497 := Old0.keep K2458 (allS gk all0)
 have Kp2498 : Keep h0 T2458.heap [mp, ky] := K00.trans K2458 (allS (Or.inl (List.mem_of_getElem? (i := 1) rfl)) all0)
 have Z2499 := Nat.le_trans Z0 K2458.1
 have hk2500 := Nat.le_trans hk0 K2458.1
 refine Rch.st (fun _ k => st2458 _ k) ?_
 show Rch p e below T2458 (mkF m 16 #[vR mp, vR ky, vR fo, U, U, U, U, U, U, U, U, U, U] [(.int r_2458)]) _
 refine w_istoreN (pc' := 17) (l' := #[vR mp, vR ky, vR fo, vI r_2458, U, U, U, U, U, U, U, U, U]) X2458 hx hby d53_16 rfl rfl ?_
 refine w_iconst (pc' := 18) (v := 0) X2458 hx hby d53_17 rfl rfl ?_
 refine w_istore (pc' := 20) (l' := #[vR mp, vR ky, vR fo, vI r_2458, U, U, U, U, vI 0, U, U, U, U]) X2458 hx hby d53_18 rfl rfl ?_
 refine w_aconstNull (pc' := 21) X2458 hx hby d53_20 rfl ?_
 refine w_astore (pc' := 23) (l' := #[vR mp, vR ky, vR fo, vI r_2458, U, U, U, U, vI 0, vN, U, U, U]) X2458 hx hby d53_21 rfl rfl rfl ?_
 refine w_aconstNull (pc' := 24) X2458 hx hby d53_23 rfl ?_
 refine w_astore (pc' := 26) (l' := #[vR mp, vR ky, vR fo, vI r_2458, U, U, U, U, vI 0, vN, vN, U, U]) X2458 hx hby d53_24 rfl rfl rfl ?_
 refine w_aloadN (pc' := 27) X2458 hx hby d53_26 rfl rfl rfl ?_
 obtain ⟨T2501, X2501, e2501, st2501⟩ := getF X2458 hx hZ hown (host := "") (Or.inl (wi hw 177 rfl)) Via.refl (rfl : T2458.heap = T2458.heap) f2490 (g := (mkF m 27 #[vR mp, vR ky, vR fo, vI r_2458, U, U, U, U, vI 0, vN, vN, U, U] [(.ref mp)])) rfl rfl (hb hby d53_27)
 refine Rch.st (fun _ k => st2501 _ k) ?_
 show Rch p e below T2501 (mkF m 30 #[vR mp, vR ky, vR fo, vI r_2458, U, U, U, U, vI 0, vN, vN, U, U] [(.int 0)]) _
 refine w_aloadN (pc' := 31) X2501 hx hby d53_30 rfl rfl rfl ?_
 obtain ⟨T2502, X2502, e2502, st2502⟩ := getF X2501 hx hZ hown (host := "") (Or.inl (wi hw 179 rfl)) Via.refl e2501 f2492 (g := (mkF m 31 #[vR mp, vR ky, vR fo, vI r_2458, U, U, U, U, vI 0, vN, vN, U, U] [(.ref mp), (.int 0)])) rfl rfl (hb hby d53_31)
 refine Rch.st (fun _ k => st2502 _ k) ?_
 show Rch p e below T2502 (mkF m 34 #[vR mp, vR ky, vR fo, vI r_2458, U, U, U, U, vI 0, vN, vN, U, U] [(.int 0), (.int 0)]) _
 refine w_icmpNo (pc' := 37) X2502 hx hby d53_34 (XT.ii_gt_f (by decide)) rfl ?_
 refine w_aloadN (pc' := 38) X2502 hx hby d53_37 rfl rfl rfl ?_
 obtain ⟨T2503, X2503, e2503, st2503⟩ := getF X2502 hx hZ hown (host := "") (Or.inl (wi hw 181 rfl)) Via.refl e2502 f2489 (g := (mkF m 38 #[vR mp, vR ky, vR fo, vI r_2458, U, U, U, U, vI 0, vN, vN, U, U] [(.ref mp)])) rfl rfl (hb hby d53_38)
 refine Rch.st (fun _ k => st2503 _ k) ?_
 show Rch p e below T2503 (mkF m 41 #[vR mp, vR ky, vR fo, vI r_2458, U, U, U, U, vI 0, vN, vN, U, U] [.null]) _
 refine w_dup (pc' := 42) X2503 hx hby d53_41 rfl rfl ?_
 refine w_astore (pc' := 44) (l' := #[vR mp, vR ky, vR fo, vI r_2458, vN, U, U, U, vI 0, vN, vN, U, U]) X2503 hx hby d53_42 rfl rfl rfl ?_
 refine w_nullYes (pc' := 56) X2503 hx hby d53_44 (rfl) (by decide) ?_
 refine w_aloadN (pc' := 57) X2503 hx hby d53_56 rfl rfl rfl ?_
 obtain ⟨cq2504, kq2504, q2504a, q2504b, q2504c⟩ := isOf hZ e2503 f2487
 obtain ⟨_, _, ⟨T2504, L2504, k2504, n2504⟩, -, X2504, ⟨Lc2504, hQ2504, l2504, y2504, z2504⟩, st2504⟩ := X2503.virtualBack hx (y := y_48) (z := y_48) hown (mvT hZ (wi hw 183 rfl)) (mvT hZ (wi hw 184 rfl)) (notFace_of_selects (args := #[]) (mvT hZ (wi hw 186 rfl))) (mvT hZ (wi hw 186 rfl)) (mvT hZ (wi hw 185 rfl)) (by decide) (backOf (W := 0) (rm_rs l Z a0 hw [] mp T2458.heap n0 Z2499 f2487 f2489 f2490 f2491 f2492 f2493 f2494 f2495 (gm)) hZ (wi hw 187 rfl) (wi hw 54 rfl) (by decide) (by decide)) q2504a q2504c (g := (mkF m 57 #[vR mp, vR ky, vR fo, vI r_2458, vN, U, U, U, vI 0, vN, vN, U, U] [(.ref mp)])) rfl (by rw [hml]; rfl) (Steps.refl _) (argsL := []) (rest := []) (lenOf pd____Ljava_util_HashMap_Node_ rfl) rfl (by show 2 * 0 + _ ≤ _; exact Nat.le_of_eq rfl) (hb hby d53_57) (fun _ _ => ⟨rfl, e2503, (by decide : 0 + 1 ≤ _), (by decide : 0 + 16 ≤ _)⟩)
 dsimp only [Pt.U, Pt.locs, Pt.cells, Pt.slots] at X2504 l2504 y2504 z2504 st2504 hQ2504
 subst l2504 y2504 z2504
 obtain ⟨t_2504, kt_2504, rfl, NQ2504, K2504, pq2504_0, pq2504_1, fq2504_0, fq2504_1, fq2504_2, fq2504_3, fq2504_4, fq2504_5, fq2504_6, fq2504_7⟩ := hQ2504
 have N2505 := Fr.app N2459 NQ2504
 have ne2511 := nlt f2483.lt pq2504_0
 have ne2512 := nlt f2487.lt pq2504_0
 have ge2518 : n0 ≤ t_2504 := Nat.le_trans Z2499 pq2504_0
 have f2519 := f2460.keep K2504
 have ne2520 : th ≠ mp := ne_exa f2460 f2487 (by decide)
 have f2521 := f2462.keep K2504 (ninS ne2520 nin0)
 have f2522 := f2463.keep K2504
 have ne2523 : fd ≠ mp := ne_exa f2463 f2487 (by decide)
 have f2524 := f2465.keep K2504 (ninS ne2523 nin0)
 have f2525 := f2466.keep K2504
 have ne2526 : fs ≠ mp := ne_exa f2466 f2487 (by decide)
 have f2527 := f2467.keep K2504 (ninS ne2526 nin0)
 have f2528 := f2468.keep K2504 (ninS ne2526 nin0)
 have ne2529 : fb ≠ mp := Ne.symm (Exa.neArv f2487 f2470 (wi hw 45 rfl))
 have f2530 := f2470.keep K2504 (ninS ne2529 nin0)
 have f2531 := f2471.keep K2504
 have ne2532 : nm ≠ mp := ne_exa f2471 f2487 (by decide)
 have f2533 := f2472.keep K2504 (ninS ne2532 nin0)
 have f2534 := f2473.keep K2504 (ninS ne2532 nin0)
 have ne2535 : nb ≠ mp := Ne.symm (Exa.neArv f2487 f2475 (wi hw 45 rfl))
 have f2536 := f2475.keep K2504 (ninS ne2535 nin0)
 have f2537 := f2476.keep K2504
 have ne2538 : sa ≠ mp := ne_exa f2476 f2487 (by decide)
 have f2539 := f2479.keep K2504 (ninS ne2538 nin0)
 have f2540 := f2480.keep K2504 (ninS ne2538 nin0)
 have ne2541 : sbb ≠ mp := Ne.symm (Exa.neArv f2487 f2482 (wi hw 45 rfl))
 have f2542 := f2482.keep K2504 (ninS ne2541 nin0)
 have f2543 := f2483.keep K2504
 have f2547 := f2487.keep K2504
 have f2548 := f2496.keep K2504 (ninS nfm nin0)
 have f2549 := fq2458_0.keep K2504 (ninS (Ne.symm ne2488) nin0)
 have f2550 := fq2458_1.keep K2504 (ninS (Ne.symm ne2488) nin0)
 have f2551 := fq2458_2.keep K2504 (ninS (Ne.symm ne2488) nin0)
 have f2552 := fq2458_3.keep K2504 (ninS (Ne.symm ne2488) nin0)
 have Old2553 := Old2497.keep K2504 (allS gm all0)
 have Kp2554 : Keep h0 T2504.heap [mp, ky] := Kp2498.trans K2504 (allS (Or.inl (List.mem_of_getElem? (i := 0) rfl)) all0)
 have Z2555 := Nat.le_trans Z2499 K2504.1
 have hk2556 := Nat.le_trans hk2500 K2504.1
 refine Rch.st (fun _ k => st2504.trans k) ?_
 show Rch p e below T2504 (mkF m 60 #[vR mp, vR ky, vR fo, vI r_2458, vN, U, U, U, vI 0, vN, vN, U, U] [(.ref t_2504)]) _
 refine w_dup (pc' := 61) X2504 hx hby d53_60 rfl rfl ?_
 refine w_astore (pc' := 63) (l' := #[vR mp, vR ky, vR fo, vI r_2458, vR t_2504, U, U, U, vI 0, vN, vN, U, U]) X2504 hx hby d53_61 rfl rfl rfl ?_
 refine Rch.st (fun _ k => own_alen X2504 hx hZ (rfl : T2504.heap = T2504.heap) fq2504_7 rfl rfl (hb hby d53_63) k) ?_
 show Rch p e below T2504 (mkF m 64 #[vR mp, vR ky, vR fo, vI r_2458, vR t_2504, U, U, U, vI 0, vN, vN, U, U] [(.int 16)]) _
 refine w_istore (pc' := 66) (l' := #[vR mp, vR ky, vR fo, vI r_2458, vR t_2504, U, vI 16, U, vI 0, vN, vN, U, U]) X2504 hx hby d53_64 rfl rfl ?_
 refine w_aload (pc' := 68) X2504 hx hby d53_66 rfl rfl rfl ?_
 refine w_iload (pc' := 70) X2504 hx hby d53_68 rfl rfl ?_
 refine w_iconst (pc' := 71) (v := 1) X2504 hx hby d53_70 rfl rfl ?_
 refine w_isub (pc' := 72) X2504 hx hby d53_71 rfl ?_
 refine w_iloadN (pc' := 73) X2504 hx hby d53_72 rfl rfl ?_
 refine w_iand (pc' := 74) X2504 hx hby d53_73 rfl ?_
 refine w_dup (pc' := 75) X2504 hx hby d53_74 rfl rfl ?_
 refine w_istore (pc' := 77) (l' := #[vR mp, vR ky, vR fo, vI r_2458, vR t_2504, U, vI 16, vI (((16 : Int32) - (1 : Int32)) &&& r_2458), vI 0, vN, vN, U, U]) X2504 hx hby d53_75 rfl rfl ?_
 refine Rch.st (fun _ k => own_ldA X2504 hx hZ (rfl : T2504.heap = T2504.heap) fq2504_7 (j := (((16 : Int32) - (1 : Int32)) &&& r_2458)) (own_idx _) (v := .null) (by simp) rfl rfl (hb hby d53_77) k) ?_
 show Rch p e below T2504 (mkF m 78 #[vR mp, vR ky, vR fo, vI r_2458, vR t_2504, U, vI 16, vI (((16 : Int32) - (1 : Int32)) &&& r_2458), vI 0, vN, vN, U, U] [.null]) _
 refine w_dup (pc' := 79) X2504 hx hby d53_78 rfl rfl ?_
 refine w_astore (pc' := 81) (l' := #[vR mp, vR ky, vR fo, vI r_2458, vR t_2504, vN, vI 16, vI (((16 : Int32) - (1 : Int32)) &&& r_2458), vI 0, vN, vN, U, U]) X2504 hx hby d53_79 rfl rfl rfl ?_
 refine w_nullYes (pc' := 194) X2504 hx hby d53_81 (rfl) (by decide) ?_
 refine w_aloadN (pc' := 195) X2504 hx hby d53_194 rfl rfl rfl ?_
 obtain ⟨T2557, X2557, e2557, st2557⟩ := getF X2504 hx hZ hown (host := "") (Or.inl (wi hw 190 rfl)) Via.refl (rfl : T2504.heap = T2504.heap) fq2504_2 (g := (mkF m 195 #[vR mp, vR ky, vR fo, vI r_2458, vR t_2504, vN, vI 16, vI (((16 : Int32) - (1 : Int32)) &&& r_2458), vI 0, vN, vN, U, U] [(.ref mp)])) rfl rfl (hb hby d53_195)
 refine Rch.st (fun _ k => st2557 _ k) ?_
 show Rch p e below T2557 (mkF m 198 #[vR mp, vR ky, vR fo, vI r_2458, vR t_2504, vN, vI 16, vI (((16 : Int32) - (1 : Int32)) &&& r_2458), vI 0, vN, vN, U, U] [(.int 0)]) _
 refine w_istore (pc' := 200) (l' := #[vR mp, vR ky, vR fo, vI r_2458, vR t_2504, vN, vI 16, vI (((16 : Int32) - (1 : Int32)) &&& r_2458), vI 0, vN, vN, vI 0, U]) X2557 hx hby d53_198 rfl rfl ?_
 refine w_aloadN (pc' := 201) X2557 hx hby d53_200 rfl rfl rfl ?_
 refine w_aloadN (pc' := 202) X2557 hx hby d53_201 rfl rfl rfl ?_
 obtain ⟨_, _, ⟨T2558, L2558, k2558, n2558⟩, -, X2558, hSx2558, hgx2558, ⟨Lc2558, hQ2558, l2558, y2558, z2558⟩, st2558⟩ := own_apply X2557 hx hZ hown (xi := y_0) (y := y_1) (wi hw 192 rfl) (wi hw 193 rfl) (mvT hZ (wi hw 194 rfl)) hmd own_hok own_hc0 own_hc1 own_hcl (wi hw 136 rfl) (wi hw 35 rfl) (wi hw 195 rfl) (wi hw 196 rfl) (wi hw 197 rfl) (wi hw 36 rfl) own_hxi own_hy (by decide) (by decide) e2557 f2548 f2519 f2543 (PV := fun vm => IB Z vm (["."] : List String) ∧ Lit (Z.setVm vm) "com/example/mandoline/mandoline/Variable" 131 sa) (rm_lam_n2 l Z a0 hw [] G1 G6 th nm fd fs fb kfb fv fdd nb knb nv_ ndd sa sbb ksb ky T2504.heap n0 Z2555 (O2) (P5) (O6) f2519 f2521 f2522 f2524 f2525 f2527 f2528 f2530 f2531 f2533 f2534 f2536 f2537 f2539 f2540 f2542 Old2553) (fun vm hW => ⟨own_ib (s := s.setVm s.vm) hI hW, own_lit (s := s) (vm := s.vm) hLi0 hW.wide⟩) (fun _ _ _ _ q => by obtain ⟨_, _, _, _, _, _, ee, -⟩ := q; exact ⟨_, ee, rfl⟩) (lenOf pd__Lcom_example_mandoline_mandoline_Place_Field_Ljava_lang_String__Lcom_example_mandoline_mandoline_Variable_ rfl) (lenOf pd__Ljava_lang_Object__Ljava_lang_Object_ rfl) (g := (mkF m 202 #[vR mp, vR ky, vR fo, vI r_2458, vR t_2504, vN, vI 16, vI (((16 : Int32) - (1 : Int32)) &&& r_2458), vI 0, vN, vN, vI 0, U] [(.ref ky), (.ref fo)])) rfl (by rw [hml]; rfl) (rest := []) rfl (hb hby d53_202) (by decide) (by show 2 * 0 + 0 + (2 + 11) + _ ≤ _; decide) (by decide : 1 + 6 ≤ _) (by decide : 16 + 58 ≤ _)
 dsimp only [Pt.U, Pt.locs, Pt.cells, Pt.slots] at X2558 l2558 y2558 z2558 st2558 hQ2558 hSx2558 hgx2558
 subst l2558 y2558 z2558
 have hS2558 := foldS hS0 (by rw [e2557]; exact hk2556) hSx2558 hgx2558
 have hk2558 : T2558.heap.size ≤ T2558.heap.size := Nat.le_refl _
 have hZ2558 : Z.Warmed39 (s.setVm T2558.vm).vm := State.Warmed39.trans (t := s.setVm s.vm) hZ hSx2558.1
 have hown2558 : (s.setVm T2558.vm).vm.findClass "java/util/HashMap" = some m.cls := by rw [show (s.setVm T2558.vm).vm = T2558.vm from rfl, hSx2558.1.alike.findClass]; exact hown
 have X2558w : Stand p l e (Rm 8 8 80 120) (s.setVm T2558.vm) m _ below meth c T2558 _ _ _ := X2558
 obtain ⟨nv_2558, m2_2558, ns_2558, ts_2558, kts_2558, tv_2558, rfl, NQ2558, K2558, pq2558_0, pq2558_1, pq2558_2, pq2558_3, fq2558_0, fq2558_1, fq2558_2, fq2558_3, fq2558_4, fq2558_5, fq2558_6, fq2558_7, fq2558_8, fq2558_9, fq2558_10, fq2558_11, fq2558_12, fq2558_13, fq2558_14, fq2558_15, IQ2558⟩ := hQ2558
 have N2559 := Fr.app N2505 NQ2558
 have ne2566 := nlt f2547.lt pq2558_0
 have ne2571 := nlt fq2504_7.lt pq2558_0
 have ne2580 := nlt f2547.lt pq2558_1
 have ne2585 := nlt fq2504_7.lt pq2558_1
 have ne2594 := nlt f2547.lt pq2558_2
 have ne2599 := nlt fq2504_7.lt pq2558_2
 have ne2608 := nlt f2547.lt pq2558_3
 have ne2613 := nlt fq2504_7.lt pq2558_3
 have f2635 := f2547.keep K2558
 have f2637 := f2549.keep K2558 nin0
 have f2638 := f2550.keep K2558 nin0
 have f2639 := f2551.keep K2558 nin0
 have f2640 := f2552.keep K2558 nin0
 have f2641 := fq2504_0.keep K2558 nin0
 have f2642 := fq2504_1.keep K2558 nin0
 have f2643 := fq2504_2.keep K2558 nin0
 have f2644 := fq2504_3.keep K2558 nin0
 have f2645 := fq2504_4.keep K2558 nin0
 have f2646 := fq2504_5.keep K2558 nin0
 have f2647 := fq2504_6.keep K2558 nin0
 have f2648 := fq2504_7.keep K2558 nin0
 have Kp2650 : Keep h0 T2558.heap [mp, ky] := Kp2554.trans K2558 all0
 have Z2651 := Nat.le_trans Z2555 K2558.1
 refine Rch.st (fun _ k => st2558.trans k) ?_
 show Rch p e below T2558 (mkF m 207 #[vR mp, vR ky, vR fo, vI r_2458, vR t_2504, vN, vI 16, vI (((16 : Int32) - (1 : Int32)) &&& r_2458), vI 0, vN, vN, vI 0, U] [(.ref nv_2558)]) _
 refine w_astore (pc' := 209) (l' := #[vR mp, vR ky, vR fo, vI r_2458, vR t_2504, vN, vI 16, vI (((16 : Int32) - (1 : Int32)) &&& r_2458), vI 0, vN, vN, vI 0, vR nv_2558]) X2558w hx hby d53_207 rfl rfl rfl ?_
 refine w_iload (pc' := 211) X2558w hx hby d53_209 rfl rfl ?_
 refine w_aloadN (pc' := 212) X2558w hx hby d53_211 rfl rfl rfl ?_
 obtain ⟨T2652, X2652, e2652, st2652⟩ := getF X2558w hx hZ2558 hown2558 (host := "") (Or.inl (wi hw 190 rfl)) Via.refl (rfl : T2558.heap = T2558.heap) f2643 (g := (mkF m 212 #[vR mp, vR ky, vR fo, vI r_2458, vR t_2504, vN, vI 16, vI (((16 : Int32) - (1 : Int32)) &&& r_2458), vI 0, vN, vN, vI 0, vR nv_2558] [(.ref mp), (.int 0)])) rfl rfl (hb hby d53_212)
 refine Rch.st (fun _ k => st2652 _ k) ?_
 show Rch p e below T2652 (mkF m 215 #[vR mp, vR ky, vR fo, vI r_2458, vR t_2504, vN, vI 16, vI (((16 : Int32) - (1 : Int32)) &&& r_2458), vI 0, vN, vN, vI 0, vR nv_2558] [(.int 0), (.int 0)]) _
 refine w_icmpYes (pc' := 226) X2652 hx hby d53_215 (XT.ii_eq_t (rfl)) (by decide) ?_
 refine w_aload (pc' := 228) X2652 hx hby d53_226 rfl rfl rfl ?_
 refine w_nonnullYes (pc' := 233) X2652 hx hby d53_228 rfl (fun q => nomatch q) (by decide) ?_
 refine w_aload (pc' := 235) X2652 hx hby d53_233 rfl rfl rfl ?_
 refine w_nullYes (pc' := 254) X2652 hx hby d53_235 (rfl) (by decide) ?_
 refine w_aload (pc' := 256) X2652 hx hby d53_254 rfl rfl rfl ?_
 refine w_nullYes (pc' := 275) X2652 hx hby d53_256 (rfl) (by decide) ?_
 refine w_aload (pc' := 277) X2652 hx hby d53_275 rfl rfl rfl ?_
 refine w_iload (pc' := 279) X2652 hx hby d53_277 rfl rfl ?_
 refine w_aloadN (pc' := 280) X2652 hx hby d53_279 rfl rfl rfl ?_
 refine w_iloadN (pc' := 281) X2652 hx hby d53_280 rfl rfl ?_
 refine w_aloadN (pc' := 282) X2652 hx hby d53_281 rfl rfl rfl ?_
 refine w_aload (pc' := 284) X2652 hx hby d53_282 rfl rfl rfl ?_
 refine w_aload (pc' := 286) X2652 hx hby d53_284 rfl rfl rfl ?_
 obtain ⟨cq2653, kq2653, q2653a, q2653b, q2653c⟩ := isOf hZ2558 e2652 f2635
 obtain ⟨_, _, ⟨T2653, L2653, k2653, n2653⟩, -, X2653, ⟨Lc2653, hQ2653, l2653, y2653, z2653⟩, st2653⟩ := X2652.virtualBack hx (y := y_56) (z := y_52) hown2558 (mvT hZ2558 (wi hw 209 rfl)) (mvT hZ2558 (wi hw 210 rfl)) (own_nf (args := #[]) (mvT hZ2558 (wi hw 140 rfl)) rfl) (mvT hZ2558 (wi hw 212 rfl)) (mvT hZ2558 (wi hw 213 rfl)) (by decide) (backOf (W := 2) (rm_nn l Z a0 hw [] mp t_2504 r_2458 ky nv_2558 T2558.heap n0 Z2651 f2635 f2641 f2642 f2643 f2644 f2645 f2646 f2647 (gm)) hZ2558 (wi hw 214 rfl) (wi hw 46 rfl) (by decide) (by decide)) q2653a q2653c (g := (mkF m 286 #[vR mp, vR ky, vR fo, vI r_2458, vR t_2504, vN, vI 16, vI (((16 : Int32) - (1 : Int32)) &&& r_2458), vI 0, vN, vN, vI 0, vR nv_2558] [.null, (.ref nv_2558), (.ref ky), (.int r_2458), (.ref mp), (.int (((16 : Int32) - (1 : Int32)) &&& r_2458)), (.ref t_2504)])) rfl (by rw [hml]; rfl) (Steps.refl _) (argsL := [(.int r_2458), (.ref ky), (.ref nv_2558), .null]) (rest := [(.int (((16 : Int32) - (1 : Int32)) &&& r_2458)), (.ref t_2504)]) (lenOf pd__ILjava_lang_Object_Ljava_lang_Object_Ljava_util_HashMap_Node__Ljava_util_HashMap_Node_ rfl) rfl (by show 2 * 0 + _ ≤ _; exact Nat.le_of_eq rfl) (hb hby d53_286) (fun _ _ => ⟨rfl, e2652, (by decide : 7 + 1 ≤ _), (by decide : 74 + 6 ≤ _)⟩)
 dsimp only [Pt.U, Pt.locs, Pt.cells, Pt.slots] at X2653 l2653 y2653 z2653 st2653 hQ2653
 subst l2653 y2653 z2653
 obtain ⟨en_2653, rfl, NQ2653, K2653, pq2653_0, fq2653_0, fq2653_1, fq2653_2, fq2653_3, fq2653_4, fq2653_5, fq2653_6, fq2653_7⟩ := hQ2653
 have N2654 := Fr.app N2559 NQ2653
 have f2692 := f2635.keep K2653
 have f2694 := f2637.keep K2653 (ninS (Ne.symm ne2488) nin0)
 have f2695 := f2638.keep K2653 (ninS (Ne.symm ne2488) nin0)
 have f2696 := f2639.keep K2653 (ninS (Ne.symm ne2488) nin0)
 have f2697 := f2640.keep K2653 (ninS (Ne.symm ne2488) nin0)
 have f2698 := f2648.keep K2653 (ninS (Ne.symm ne2512) nin0)
 have f2699 := fq2558_0.keep K2653
 have f2700 := fq2558_1.keep K2653 (ninS (Ne.symm ne2566) nin0)
 have f2701 := fq2558_2.keep K2653 (ninS (Ne.symm ne2566) nin0)
 have f2702 := fq2558_3.keep K2653 (ninS (Ne.symm ne2566) nin0)
 have f2703 := fq2558_4.keep K2653
 have f2704 := fq2558_5.keep K2653 (ninS (Ne.symm ne2580) nin0)
 have f2705 := fq2558_6.keep K2653 (ninS (Ne.symm ne2580) nin0)
 have f2706 := fq2558_7.keep K2653 (ninS (Ne.symm ne2580) nin0)
 have f2707 := fq2558_8.keep K2653 (ninS (Ne.symm ne2580) nin0)
 have f2708 := fq2558_9.keep K2653 (ninS (Ne.symm ne2580) nin0)
 have f2709 := fq2558_10.keep K2653 (ninS (Ne.symm ne2580) nin0)
 have f2710 := fq2558_11.keep K2653 (ninS (Ne.symm ne2580) nin0)
 have f2711 := fq2558_12.keep K2653
 have f2712 := fq2558_13.keep K2653 (ninS (Ne.symm ne2594) nin0)
 have f2713 := fq2558_14.keep K2653 (ninS (Ne.symm ne2594) nin0)
 have f2714 := fq2558_15.keep K2653 (ninS (Ne.symm ne2608) nin0)
 have Kp2716 : Keep h0 T2653.heap [mp, ky] := Kp2650.trans K2653 (allS (Or.inl (List.mem_of_getElem? (i := 0) rfl)) all0)
 have Z2717 := Nat.le_trans Z2651 K2653.1
 have hk2718 := Nat.le_trans hk2558 K2653.1
 refine Rch.st (fun _ k => st2653.trans k) ?_
 show Rch p e below T2653 (mkF m 289 #[vR mp, vR ky, vR fo, vI r_2458, vR t_2504, vN, vI 16, vI (((16 : Int32) - (1 : Int32)) &&& r_2458), vI 0, vN, vN, vI 0, vR nv_2558] [(.ref en_2653), (.int (((16 : Int32) - (1 : Int32)) &&& r_2458)), (.ref t_2504)]) _
 obtain ⟨T2719, h2719, X2719, e2719, W2719, st2719⟩ := own_stA X2653 hx hZ2558 (rfl : T2653.heap = T2653.heap) f2698 (pq2504_1) (Ins.of_exa fq2653_0 (wi hw 225 rfl)) (j := (((16 : Int32) - (1 : Int32)) &&& r_2458)) (own_idx _) (g := (mkF m 289 #[vR mp, vR ky, vR fo, vI r_2458, vR t_2504, vN, vI 16, vI (((16 : Int32) - (1 : Int32)) &&& r_2458), vI 0, vN, vN, vI 0, vR nv_2558] [(.ref en_2653), (.int (((16 : Int32) - (1 : Int32)) &&& r_2458)), (.ref t_2504)])) rfl rfl (hb hby d53_289)
 have N2720 := Fr.snoc X2719 N2654 ge2518
 have f2740 := f2692.wr W2719
 have f2742 := f2694.other W2719 (Or.inl ne2511)
 have f2743 := f2695.other W2719 (Or.inl ne2511)
 have f2744 := f2696.other W2719 (Or.inl ne2511)
 have f2745 := f2697.other W2719 (Or.inl ne2511)
 have f2746 := f2699.wr W2719
 have f2747 := f2700.other W2719 (Or.inl (Ne.symm ne2571))
 have f2748 := f2701.other W2719 (Or.inl (Ne.symm ne2571))
 have f2749 := f2702.other W2719 (Or.inl (Ne.symm ne2571))
 have f2750 := f2703.wr W2719
 have f2751 := f2704.other W2719 (Or.inl (Ne.symm ne2585))
 have f2752 := f2705.other W2719 (Or.inl (Ne.symm ne2585))
 have f2753 := f2706.other W2719 (Or.inl (Ne.symm ne2585))
 have f2754 := f2707.other W2719 (Or.inl (Ne.symm ne2585))
 have f2755 := f2708.other W2719 (Or.inl (Ne.symm ne2585))
 have f2756 := f2709.other W2719 (Or.inl (Ne.symm ne2585))
 have f2757 := f2710.other W2719 (Or.inl (Ne.symm ne2585))
 have f2758 := f2711.wr W2719
 have f2759 := f2712.other W2719 (Or.inl (Ne.symm ne2599))
 have f2760 := f2713.other W2719 (Or.inl (Ne.symm ne2599))
 have f2761 := f2714.other W2719 (Ne.symm ne2613)
 have f2764 := fq2653_2.other W2719 (Or.inl ne2512)
 have f2765 := fq2653_3.other W2719 (Or.inl ne2512)
 have f2768 := fq2653_6.other W2719 (Or.inl ne2512)
 have Z2771 := Nat.le_trans Z2717 (Keep.of_wr W2719).1
 have hk2772 := Nat.le_trans hk2718 (Keep.of_wr W2719).1
 have Kp2773 : Keep h0 h2719 [mp, ky] := Kp2716.wr W2719 (Or.inr (Nat.le_trans Kp2498.1 pq2504_0))
 refine Rch.st (fun _ k => st2719 _ k) ?_
 show Rch p e below T2719 (mkF m 290 #[vR mp, vR ky, vR fo, vI r_2458, vR t_2504, vN, vI 16, vI (((16 : Int32) - (1 : Int32)) &&& r_2458), vI 0, vN, vN, vI 0, vR nv_2558] []) _
 refine w_iload (pc' := 292) X2719 hx hby d53_290 rfl rfl ?_
 refine w_bipush (pc' := 294) (v := 7) X2719 hx hby d53_292 rfl rfl ?_
 refine w_icmpYes (pc' := 304) X2719 hx hby d53_294 (XT.ii_lt_t (by decide)) (by decide) ?_
 refine w_aloadN (pc' := 305) X2719 hx hby d53_304 rfl rfl rfl ?_
 refine w_iload (pc' := 307) X2719 hx hby d53_305 rfl rfl ?_
 refine w_iconst (pc' := 308) (v := 1) X2719 hx hby d53_307 rfl rfl ?_
 refine w_iadd (pc' := 309) X2719 hx hby d53_308 rfl ?_
 obtain ⟨T2774, h2774, X2774, e2774, W2774, st2774⟩ := putF X2719 hx hZ2558 hown2558 (host := "") (Or.inl (wi hw 190 rfl)) Via.refl e2719 f2765 f2740 (Or.inl (wi hw 191 rfl)) (wi hw 45 rfl) (ty := .int) (by decide) rfl rfl (g := (mkF m 309 #[vR mp, vR ky, vR fo, vI r_2458, vR t_2504, vN, vI 16, vI (((16 : Int32) - (1 : Int32)) &&& r_2458), vI 0, vN, vN, vI 0, vR nv_2558] [(.int ((0 : Int32) + (1 : Int32))), (.ref mp)])) rfl rfl (hb hby d53_309)
 have N2775 := Fr.snoc X2774 N2720 gm
 have f2795 := f2740.wr W2774
 have f2797 := f2742.other W2774 (Or.inl (Ne.symm ne2488))
 have f2798 := f2743.other W2774 (Or.inl (Ne.symm ne2488))
 have f2799 := f2744.other W2774 (Or.inl (Ne.symm ne2488))
 have f2800 := f2745.other W2774 (Or.inl (Ne.symm ne2488))
 have f2801 := f2746.wr W2774
 have f2802 := f2747.other W2774 (Or.inl (Ne.symm ne2566))
 have f2803 := f2748.other W2774 (Or.inl (Ne.symm ne2566))
 have f2804 := f2749.other W2774 (Or.inl (Ne.symm ne2566))
 have f2805 := f2750.wr W2774
 have f2806 := f2751.other W2774 (Or.inl (Ne.symm ne2580))
 have f2807 := f2752.other W2774 (Or.inl (Ne.symm ne2580))
 have f2808 := f2753.other W2774 (Or.inl (Ne.symm ne2580))
 have f2809 := f2754.other W2774 (Or.inl (Ne.symm ne2580))
 have f2810 := f2755.other W2774 (Or.inl (Ne.symm ne2580))
 have f2811 := f2756.other W2774 (Or.inl (Ne.symm ne2580))
 have f2812 := f2757.other W2774 (Or.inl (Ne.symm ne2580))
 have f2813 := f2758.wr W2774
 have f2814 := f2759.other W2774 (Or.inl (Ne.symm ne2594))
 have f2815 := f2760.other W2774 (Or.inl (Ne.symm ne2594))
 have f2816 := f2761.other W2774 (Ne.symm ne2608)
 have f2819 := f2764.other W2774 (Or.inr (slot_ne (t := .int) (t' := .int) (Or.inl (wi hw 178 rfl)) (Or.inl (wi hw 191 rfl)) (by decide) (by decide) (by decide)))
 have f2823 := f2768.other W2774 (Or.inr (slot_ne (t := (.object "java/util/LinkedHashMap$Entry")) (t' := .int) (Or.inl (wi hw 245 rfl)) (Or.inl (wi hw 191 rfl)) (by decide) (by decide) (by decide)))
 have Z2826 := Nat.le_trans Z2771 (Keep.of_wr W2774).1
 have hk2827 := Nat.le_trans hk2772 (Keep.of_wr W2774).1
 have Kp2828 : Keep h0 h2774 [mp, ky] := Kp2773.wr W2774 (Or.inl (List.mem_of_getElem? (i := 0) rfl))
 refine Rch.st (fun _ k => st2774 _ k) ?_
 show Rch p e below T2774 (mkF m 312 #[vR mp, vR ky, vR fo, vI r_2458, vR t_2504, vN, vI 16, vI (((16 : Int32) - (1 : Int32)) &&& r_2458), vI 0, vN, vN, vI 0, vR nv_2558] []) _
 refine w_aloadN (pc' := 313) X2774 hx hby d53_312 rfl rfl rfl ?_
 refine w_dup (pc' := 314) X2774 hx hby d53_313 rfl rfl ?_
 obtain ⟨T2829, X2829, e2829, st2829⟩ := getF X2774 hx hZ2558 hown2558 (host := "") (Or.inl (wi hw 177 rfl)) Via.refl e2774 f2819 (g := (mkF m 314 #[vR mp, vR ky, vR fo, vI r_2458, vR t_2504, vN, vI 16, vI (((16 : Int32) - (1 : Int32)) &&& r_2458), vI 0, vN, vN, vI 0, vR nv_2558] [(.ref mp), (.ref mp)])) rfl rfl (hb hby d53_314)
 refine Rch.st (fun _ k => st2829 _ k) ?_
 show Rch p e below T2829 (mkF m 317 #[vR mp, vR ky, vR fo, vI r_2458, vR t_2504, vN, vI 16, vI (((16 : Int32) - (1 : Int32)) &&& r_2458), vI 0, vN, vN, vI 0, vR nv_2558] [(.int 0), (.ref mp)]) _
 refine w_iconst (pc' := 318) (v := 1) X2829 hx hby d53_317 rfl rfl ?_
 refine w_iadd (pc' := 319) X2829 hx hby d53_318 rfl ?_
 obtain ⟨T2830, h2830, X2830, e2830, W2830, st2830⟩ := putF X2829 hx hZ2558 hown2558 (host := "") (Or.inl (wi hw 177 rfl)) Via.refl e2829 f2819 f2795 (Or.inl (wi hw 178 rfl)) (wi hw 45 rfl) (ty := .int) (by decide) rfl rfl (g := (mkF m 319 #[vR mp, vR ky, vR fo, vI r_2458, vR t_2504, vN, vI 16, vI (((16 : Int32) - (1 : Int32)) &&& r_2458), vI 0, vN, vN, vI 0, vR nv_2558] [(.int ((0 : Int32) + (1 : Int32))), (.ref mp)])) rfl rfl (hb hby d53_319)
 have N2831 := Fr.snoc X2830 N2775 gm
 have f2851 := f2795.wr W2830
 have f2853 := f2797.other W2830 (Or.inl (Ne.symm ne2488))
 have f2854 := f2798.other W2830 (Or.inl (Ne.symm ne2488))
 have f2855 := f2799.other W2830 (Or.inl (Ne.symm ne2488))
 have f2856 := f2800.other W2830 (Or.inl (Ne.symm ne2488))
 have f2857 := f2801.wr W2830
 have f2858 := f2802.other W2830 (Or.inl (Ne.symm ne2566))
 have f2859 := f2803.other W2830 (Or.inl (Ne.symm ne2566))
 have f2860 := f2804.other W2830 (Or.inl (Ne.symm ne2566))
 have f2861 := f2805.wr W2830
 have f2862 := f2806.other W2830 (Or.inl (Ne.symm ne2580))
 have f2863 := f2807.other W2830 (Or.inl (Ne.symm ne2580))
 have f2864 := f2808.other W2830 (Or.inl (Ne.symm ne2580))
 have f2865 := f2809.other W2830 (Or.inl (Ne.symm ne2580))
 have f2866 := f2810.other W2830 (Or.inl (Ne.symm ne2580))
 have f2867 := f2811.other W2830 (Or.inl (Ne.symm ne2580))
 have f2868 := f2812.other W2830 (Or.inl (Ne.symm ne2580))
 have f2869 := f2813.wr W2830
 have f2870 := f2814.other W2830 (Or.inl (Ne.symm ne2594))
 have f2871 := f2815.other W2830 (Or.inl (Ne.symm ne2594))
 have f2872 := f2816.other W2830 (Ne.symm ne2608)
 have f2879 := f2823.other W2830 (Or.inr (slot_ne (t := (.object "java/util/LinkedHashMap$Entry")) (t' := .int) (Or.inl (wi hw 245 rfl)) (Or.inl (wi hw 178 rfl)) (by decide) (by decide) (by decide)))
 have Z2882 := Nat.le_trans Z2826 (Keep.of_wr W2830).1
 have hk2883 := Nat.le_trans hk2827 (Keep.of_wr W2830).1
 have Kp2884 : Keep h0 h2830 [mp, ky] := Kp2828.wr W2830 (Or.inl (List.mem_of_getElem? (i := 0) rfl))
 refine Rch.st (fun _ k => st2830 _ k) ?_
 show Rch p e below T2830 (mkF m 322 #[vR mp, vR ky, vR fo, vI r_2458, vR t_2504, vN, vI 16, vI (((16 : Int32) - (1 : Int32)) &&& r_2458), vI 0, vN, vN, vI 0, vR nv_2558] []) _
 refine w_aloadN (pc' := 323) X2830 hx hby d53_322 rfl rfl rfl ?_
 refine w_iconst (pc' := 324) (v := 1) X2830 hx hby d53_323 rfl rfl ?_
 obtain ⟨cq2885, kq2885, q2885a, q2885b, q2885c⟩ := isOf hZ2558 e2830 f2851
 obtain ⟨_, _, ⟨T2885, L2885, k2885, n2885⟩, -, X2885, ⟨Lc2885, hQ2885, l2885, y2885, z2885⟩, st2885⟩ := X2830.virtualBack hx (y := y_57) (z := y_54) hown2558 (mvT hZ2558 (wi hw 246 rfl)) (mvT hZ2558 (wi hw 247 rfl)) (own_nf (args := #[]) (mvT hZ2558 (wi hw 140 rfl)) rfl) (mvT hZ2558 (wi hw 249 rfl)) (mvT hZ2558 (wi hw 250 rfl)) (by decide) (backOf (W := 0) (rm_ai l Z a0 hw [] mp en_2653 h2830 n0 Z2882 f2851 f2879) hZ2558 (wi hw 251 rfl) (wi hw 46 rfl) (by decide) (by decide)) q2885a q2885c (g := (mkF m 324 #[vR mp, vR ky, vR fo, vI r_2458, vR t_2504, vN, vI 16, vI (((16 : Int32) - (1 : Int32)) &&& r_2458), vI 0, vN, vN, vI 0, vR nv_2558] [(.int 1), (.ref mp)])) rfl (by rw [hml]; rfl) (Steps.refl _) (argsL := [(.int 1)]) (rest := []) (lenOf pd__Z_V rfl) rfl (by show 2 * 0 + _ ≤ _; exact Nat.le_of_eq rfl) (hb hby d53_324) (fun _ _ => ⟨rfl, e2830, (by decide : 8 + 0 ≤ _), (by decide : 80 + 0 ≤ _)⟩)
 dsimp only [Pt.U, Pt.locs, Pt.cells, Pt.slots] at X2885 l2885 y2885 z2885 st2885 hQ2885
 subst l2885 y2885 z2885
 obtain ⟨rfl, NQ2885, K2885⟩ := hQ2885
 have N2886 := Fr.app N2831 NQ2885
 refine Rch.st (fun _ k => st2885.trans k) ?_
 show Rch p e below T2885 (mkF m 327 #[vR mp, vR ky, vR fo, vI r_2458, vR t_2504, vN, vI 16, vI (((16 : Int32) - (1 : Int32)) &&& r_2458), vI 0, vN, vN, vI 0, vR nv_2558] []) _
 refine w_aload (pc' := 329) X2885 hx hby d53_327 rfl rfl rfl ?_
 exact Rch.retVW X2885 hx hS2558 (by rw [K2885]; exact hk2883) Bd.returns rfl (Or.inr (Or.inr (Or.inr (Or.inr ⟨rfl, rfl, rfl⟩)))) (hb hby d53_329) (by rw [K2885]; exact ⟨nv_2558, m2_2558, ns_2558, ts_2558, kts_2558, tv_2558, x2_2458, y2_2458, rfl, N2886, Kp2884, (Nat.le_trans Kp2554.1 pq2558_0), (Nat.le_trans Kp2554.1 pq2558_1), (Nat.le_trans Kp2554.1 pq2558_2), (Nat.le_trans Kp2554.1 pq2558_3), f2857, f2858, f2859, f2860, f2861, f2862, f2863, f2864, f2865, f2866, f2867, f2868, f2869, f2870, f2871, f2872, f2853, f2854, f2855, f2856, own_ib_mono (own_ib (s := s.setVm T2558.vm) IQ2558 X2885.warmed) (by decide)⟩) (by decide) (by decide)

theorem ef_rm_af_n2 (m : MethodId) (G1 : Int32) (G6 : Addr) (th : Addr) (nm : Addr) (fd : Addr) (fs : Addr) (fb : Addr) (kfb : ClassId) (fv : List Value) (fdd : Value) (nb : Addr) (knb : ClassId) (nv_ : List Value) (ndd : Value) (sa : Addr) (sbb : Addr) (ksb : ClassId) (ky : Addr) (kb : Addr) (kkb : ClassId) (b0 : Int32) (b1 : Int32) (hv : Int32) (hz : Int32) (mp : Addr)  : entryFrame m #[(.ref th), (.ref fd)] 2 = mkF m 0 #[vR th, vR fd] [] := by  first | (simp [entryFrame, mkF, argsToLocals, Value.category, maxLocals]; done) | rfl
def Q_rm_af_n2 (Z : State) (G1 : Int32) (G6 : Addr) (th : Addr) (nm : Addr) (fd : Addr) (fs : Addr) (fb : Addr) (kfb : ClassId) (fv : List Value) (fdd : Value) (nb : Addr) (knb : ClassId) (nv_ : List Value) (ndd : Value) (sa : Addr) (sbb : Addr) (ksb : ClassId) (ky : Addr) (kb : Addr) (kkb : ClassId) (b0 : Int32) (b1 : Int32) (hv : Int32) (hz : Int32) (mp : Addr) (h0 : Heap) (n0 : Nat) (v : Option Value) (h : Heap) (vm : Vm) (L : List Loc) : Prop := ∃ (nv : Addr) (m2 : Addr) (ns : Addr) (ts : Addr) (kts : ClassId) (tv : List Value) (x2 : Int32) (y2 : Int32), (v = some (.ref nv)) ∧ (Fr n0 L) ∧ (Keep h0 h [mp, ky]) ∧ (h0.size ≤ nv) ∧ (h0.size ≤ m2) ∧ (h0.size ≤ ns) ∧ (h0.size ≤ ts) ∧ (Exa Z h nv "com/example/mandoline/mandoline/Variable") ∧ (Fld Z h nv "com/example/mandoline/mandoline/Variable" "fields" "Ljava/util/Map;" (.ref m2)) ∧ (Fld Z h nv "com/example/mandoline/mandoline/Variable" "name" "Ljava/lang/String;" (.ref ns)) ∧ (Fld Z h nv "com/example/mandoline/mandoline/Variable" "containing" "Lcom/example/mandoline/mandoline/Variable;" (.ref th)) ∧ (Exa Z h m2 "java/util/LinkedHashMap") ∧ (Fld Z h m2 "java/util/HashMap" "table" "[Ljava/util/HashMap$Node;" .null) ∧ (Fld Z h m2 "java/util/HashMap" "size" "I" (.int (0 : Int32))) ∧ (Fld Z h m2 "java/util/HashMap" "modCount" "I" (.int (0 : Int32))) ∧ (Fld Z h m2 "java/util/HashMap" "threshold" "I" (.int (0 : Int32))) ∧ (Fld Z h m2 "java/util/LinkedHashMap" "putMode" "I" (.int (0 : Int32))) ∧ (Fld Z h m2 "java/util/LinkedHashMap" "head" "Ljava/util/LinkedHashMap$Entry;" .null) ∧ (Fld Z h m2 "java/util/LinkedHashMap" "tail" "Ljava/util/LinkedHashMap$Entry;" .null) ∧ (Exa Z h ns "java/lang/String") ∧ (Fld Z h ns "java/lang/String" "coder" "B" (.int (0 : Int32))) ∧ (Fld Z h ns "java/lang/String" "value" "[B" (.ref ts)) ∧ (Arv Z h ts kts .byte (8 : Int32) tv (.int (0 : Int32))) ∧ (Fld Z h ky "java/lang/String" "coder" "B" (.int (0 : Int32))) ∧ (Fld Z h ky "java/lang/String" "value" "[B" (.ref kb)) ∧ (Fld Z h ky "java/lang/String" "hash" "I" (.int x2)) ∧ (Fld Z h ky "java/lang/String" "hashIsZero" "Z" (.int y2)) ∧ (IB Z vm (["."] : List String))
set_option maxRecDepth 65536 in
set_option maxHeartbeats 40000000 in
theorem rm_af_n2 (l : Launch) (Z : State) (a0 : Array Value) (hw : ∀ d ∈ tables_1, d.before a0 Z = true) (ws : List Jvm.Cond) (G1 : Int32) (G6 : Addr) (th : Addr) (nm : Addr) (fd : Addr) (fs : Addr) (fb : Addr) (kfb : ClassId) (fv : List Value) (fdd : Value) (nb : Addr) (knb : ClassId) (nv_ : List Value) (ndd : Value) (sa : Addr) (sbb : Addr) (ksb : ClassId) (ky : Addr) (kb : Addr) (kkb : ClassId) (b0 : Int32) (b1 : Int32) (hv : Int32) (hz : Int32) (mp : Addr) (h0 : Heap) (n0 : Nat) (Z0 : n0 ≤ h0.size) (O2 : Sta Z Z.heap "java/lang/String" "COMPACT_STRINGS" "Z" (.int G1)) (P5 : ¬ G1 = 0) (O6 : Sta Z Z.heap "java/util/ImmutableCollections" "EMPTY_LIST" "Ljava/util/ImmutableCollections$ListN;" (.ref G6)) (f3 : Exa Z h0 th "com/example/mandoline/mandoline/Variable") (f4 : Fld Z h0 th "com/example/mandoline/mandoline/Variable" "name" "Ljava/lang/String;" (.ref nm)) (f5 : Exa Z h0 fd "com/example/mandoline/mandoline/Place$Field") (f6 : Fld Z h0 fd "com/example/mandoline/mandoline/Place$Field" "name" "Ljava/lang/String;" (.ref fs)) (f7 : Exa Z h0 fs "java/lang/String") (f8 : Fld Z h0 fs "java/lang/String" "coder" "B" (.int (0 : Int32))) (f9 : Fld Z h0 fs "java/lang/String" "value" "[B" (.ref fb)) (f10 : Arv Z h0 fb kfb .byte (2 : Int32) fv fdd) (f11 : Exa Z h0 nm "java/lang/String") (f12 : Fld Z h0 nm "java/lang/String" "coder" "B" (.int (0 : Int32))) (f13 : Fld Z h0 nm "java/lang/String" "value" "[B" (.ref nb)) (f14 : Arv Z h0 nb knb .byte (5 : Int32) nv_ ndd) (f15 : Exa Z h0 sa "java/lang/String") (f16 : Fld Z h0 sa "java/lang/String" "coder" "B" (.int (0 : Int32))) (f17 : Fld Z h0 sa "java/lang/String" "value" "[B" (.ref sbb)) (f18 : Arv Z h0 sbb ksb .byte (1 : Int32) [(.int (46 : Int32))] (.int (0 : Int32))) (f19 : Fld Z h0 th "com/example/mandoline/mandoline/Variable" "fields" "Ljava/util/Map;" (.ref mp)) (f20 : Fld Z h0 fd "com/example/mandoline/mandoline/Place$Field" "key" "Ljava/lang/String;" (.ref ky)) (f21 : Exa Z h0 ky "java/lang/String") (f22 : Fld Z h0 ky "java/lang/String" "coder" "B" (.int (0 : Int32))) (f23 : Fld Z h0 ky "java/lang/String" "value" "[B" (.ref kb)) (f24 : Fld Z h0 ky "java/lang/String" "hash" "I" (.int hv)) (f25 : Fld Z h0 ky "java/lang/String" "hashIsZero" "Z" (.int hz)) (f26 : Arv Z h0 kb kkb .byte (2 : Int32) [(.int b0), (.int b1)] (.int (0 : Int32))) (f27 : Exa Z h0 kb "[B") (f28 : Exa Z h0 mp "java/util/LinkedHashMap") (f29 : Fld Z h0 mp "java/util/HashMap" "table" "[Ljava/util/HashMap$Node;" .null) (f30 : Fld Z h0 mp "java/util/HashMap" "size" "I" (.int (0 : Int32))) (f31 : Fld Z h0 mp "java/util/HashMap" "modCount" "I" (.int (0 : Int32))) (f32 : Fld Z h0 mp "java/util/HashMap" "threshold" "I" (.int (0 : Int32))) (f33 : Fld Z h0 mp "java/util/LinkedHashMap" "putMode" "I" (.int (0 : Int32))) (f34 : Fld Z h0 mp "java/util/LinkedHashMap" "head" "Ljava/util/LinkedHashMap$Entry;" .null) (f35 : Fld Z h0 mp "java/util/LinkedHashMap" "tail" "Ljava/util/LinkedHashMap$Entry;" .null) (gm : n0 ≤ mp) (gk : n0 ≤ ky) (qs1 : fs ≠ ky) (qs2 : nm ≠ ky) (Old0 : OldL Z n0 h0) :
    MetW l Z y_58 c54 2 (some (.object "com/example/mandoline/mandoline/Variable")) ws (Rm 9 9 82 3076) #[(.ref th), (.ref fd)] h0 (fun vm => IB Z vm (["."] : List String) ∧ Lit (Z.setVm vm) "com/example/mandoline/mandoline/Variable" 131 sa) (Q_rm_af_n2 Z G1 G6 th nm fd fs fb kfb fv fdd nb knb nv_ ndd sa sbb ksb ky kb kkb b0 b1 hv hz mp h0 n0) := by
 refine MetFree.of_bodySF (plainFor_of_name pn_com_example_mandoline_mandoline_Variable) hisR ?_
 intro p e s m args below meth c s₁ Bd hml0 hP hK
 obtain ⟨rfl, hZ, hh, hI, hLi0⟩ := hP
 have hx := Bd.exec
 have hby := Bd.bytes
 have hml : c.maxLocals = 2 := hml0
 have hown : s.vm.findClass "com/example/mandoline/mandoline/Variable" = some m.cls := findClass_of_methodNamed Bd.named
 have X0 : Stand p l e (Rm 9 9 82 3076) (s.setVm s.vm) m #[(.ref th), (.ref fd)] below meth c s₁ [] 0 0 := Stand.of_body Bd
 have e0 : s₁.heap = h0 := by rw [← hh, Bd.state]; rfl
 have N0 := Fr.nil n0
 have K00 : Keep h0 h0 [mp, ky] := Keep.refl _ _
 have hS0 : s.Since s.vm s.heap.size := (State.WarmedH.refl s).since _
 have hk0 : s.heap.size ≤ h0.size := by rw [hh]; exact Nat.le_refl _
 have hkeep : ∀ (b : Addr) (cl : Cell), Z.heap[b]? = some cl → s.heap[b]? = some cl := by rw [hh]; exact Old0.2.2
 show Rch p e below s₁ (entryFrame m #[(.ref th), (.ref fd)] 2) (FinW s (Q_rm_af_n2 Z G1 G6 th nm fd fs fb kfb fv fdd nb knb nv_ ndd sa sbb ksb ky kb kkb b0 b1 hv hz mp h0 n0) 9 82)
 refine Rch.cast (ef_rm_af_n2 m G1 G6 th nm fd fs fb kfb fv fdd nb knb nv_ ndd sa sbb ksb ky kb kkb b0 b1 hv hz mp) ?_
 show Rch p e below s₁ (mkF m 0 #[vR th, vR fd] []) _
 refine w_aloadN (pc' := 1) X0 hx hby d54_0 rfl rfl rfl ?_
 obtain ⟨T2887, X2887, e2887, st2887⟩ := getF X0 hx hZ hown (host := "") (Or.inl (wi hw 70 rfl)) Via.refl e0 f19 (g := (mkF m 1 #[vR th, vR fd] [(.ref th)])) rfl rfl (hb hby d54_1)
 refine Rch.st (fun _ k => st2887 _ k) ?_
 show Rch p e below T2887 (mkF m 4 #[vR th, vR fd] [(.ref mp)]) _
 refine w_aloadN (pc' := 5) X2887 hx hby d54_4 rfl rfl rfl ?_
 obtain ⟨cq2888, kq2888, q2888a, q2888b, q2888c⟩ := isOf hZ e2887 f5
 obtain ⟨_, _, ⟨T2888, L2888, k2888, n2888⟩, -, X2888, ⟨Lc2888, hQ2888, l2888, y2888, z2888⟩, st2888⟩ := X2887.virtualBack hx (y := y_39) (z := y_39) hown (mvT hZ (wi hw 128 rfl)) (mvT hZ (wi hw 129 rfl)) (notFace_of_selects (args := #[]) (mvT hZ (wi hw 131 rfl))) (mvT hZ (wi hw 131 rfl)) (mvT hZ (wi hw 130 rfl)) (by decide) (backOf (W := 1) (rm_ky l Z a0 hw [] fd ky h0 n0 Z0 f20) hZ (wi hw 132 rfl) (wi hw 109 rfl) (by decide) (by decide)) q2888a q2888c (g := (mkF m 5 #[vR th, vR fd] [(.ref fd), (.ref mp)])) rfl (by rw [hml]; rfl) (Steps.refl _) (argsL := []) (rest := [(.ref mp)]) (lenOf pd___Ljava_lang_String_ rfl) rfl (by show 2 * 0 + _ ≤ _; exact Nat.le_of_eq rfl) (hb hby d54_5) (fun _ _ => ⟨rfl, e2887, (by decide : 0 + 0 ≤ _), (by decide : 0 + 0 ≤ _)⟩)
 dsimp only [Pt.U, Pt.locs, Pt.cells, Pt.slots] at X2888 l2888 y2888 z2888 st2888 hQ2888
 subst l2888 y2888 z2888
 obtain ⟨rfl, NQ2888, K2888⟩ := hQ2888
 have N2889 := Fr.app N0 NQ2888
 refine Rch.st (fun _ k => st2888.trans k) ?_
 show Rch p e below T2888 (mkF m 8 #[vR th, vR fd] [(.ref ky), (.ref mp)]) _
 refine w_aloadN (pc' := 9) X2888 hx hby d54_8 rfl rfl rfl ?_
 refine w_aloadN (pc' := 10) X2888 hx hby d54_9 rfl rfl rfl ?_
 obtain ⟨T2890, h2890, cK2890, MD2890, X2890, e2890, E2890, F2890, st2890⟩ := own_mkLam (σ := own_sg) X2888 hx hZ Bd.named (wi hw 133 rfl) rfl own_hc0 (wi hw 136 rfl) K2888 (g := (mkF m 10 #[vR th, vR fd] [(.ref fd), (.ref th), (.ref ky), (.ref mp)])) rfl rfl (by rw [hml]; rfl) (hb hby d54_10) (va := (.ref th)) (vb := (.ref fd)) rfl ⟨rfl, rfl⟩ ⟨rfl, rfl⟩ (by show 2 * 0 + 4 + 3072 ≤ _; decide) (by decide) (by decide)
 obtain ⟨a2890, g2890⟩ : ∃ z, z = h0.size := ⟨_, rfl⟩
 rw [← g2890] at F2890 st2890
 have ne2895 : ky ≠ a2890 := by rw [g2890]; exact Nat.ne_of_lt f21.lt
 have ne2896 : mp ≠ a2890 := by rw [g2890]; exact Nat.ne_of_lt f28.lt
 have hk2904 := Nat.le_trans hk0 E2890.1
 have f2905 := f3.ext E2890
 have f2906 := f4.ext E2890
 have f2907 := f5.ext E2890
 have f2908 := f6.ext E2890
 have f2909 := f7.ext E2890
 have f2910 := f8.ext E2890
 have f2911 := f9.ext E2890
 have f2912 := f10.ext E2890
 have f2913 := f11.ext E2890
 have f2914 := f12.ext E2890
 have f2915 := f13.ext E2890
 have f2916 := f14.ext E2890
 have f2917 := f15.ext E2890
 have f2918 := f16.ext E2890
 have f2919 := f17.ext E2890
 have f2920 := f18.ext E2890
 have f2923 := f21.ext E2890
 have f2924 := f22.ext E2890
 have f2925 := f23.ext E2890
 have f2926 := f24.ext E2890
 have f2927 := f25.ext E2890
 have f2928 := f26.ext E2890
 have f2929 := f27.ext E2890
 have f2930 := f28.ext E2890
 have f2931 := f29.ext E2890
 have f2932 := f30.ext E2890
 have f2933 := f31.ext E2890
 have f2934 := f32.ext E2890
 have f2935 := f33.ext E2890
 have f2936 := f34.ext E2890
 have f2937 := f35.ext E2890
 have Old2938 := Old0.ext E2890
 have Z2939 := Nat.le_trans Z0 E2890.1
 have Kp2940 : Keep h0 h2890 [mp, ky] := K00.ext E2890
 refine Rch.st (fun _ k => st2890 _ k) ?_
 show Rch p e below T2890 (mkF m 15 #[vR th, vR fd] [(.ref a2890), (.ref ky), (.ref mp)]) _
 obtain ⟨cq2941, kq2941, q2941a, q2941b, q2941c⟩ := isOf hZ e2890 f2930
 obtain ⟨_, _, ⟨T2941, L2941, k2941, n2941⟩, -, X2941, hSx2941, hgx2941, ⟨Lc2941, hQ2941, l2941, y2941, z2941⟩, st2941⟩ := X2890.interfaceBackS hx (xi := y_59) (y := y_55) hown (mvT hZ (wi hw 137 rfl)) (mvT hZ (wi hw 138 rfl)) (mvT hZ (wi hw 139 rfl)) (mvT hZ (wi hw 140 rfl)) (mvT hZ (wi hw 141 rfl)) (mvT hZ (wi hw 142 rfl)) (mvT hZ (wi hw 143 rfl)) (mvT hZ (wi hw 144 rfl)) (by decide) (backOfV (PV := fun vm => IB Z vm (["."] : List String) ∧ Lit (Z.setVm vm) "com/example/mandoline/mandoline/Variable" 131 sa) (W := 0) (rm_ci_n2 l Z a0 hw [] G1 G6 th nm fd fs fb kfb fv fdd nb knb nv_ ndd sa sbb ksb ky kb kkb b0 b1 hv hz mp a2890 cK2890 h2890 n0 Z2939 (O2) (P5) (O6) f2905 f2906 f2907 f2908 f2909 f2910 f2911 f2912 f2913 f2914 f2915 f2916 f2917 f2918 f2919 f2920 f2923 f2924 f2925 f2926 f2927 f2928 f2929 f2930 f2931 f2932 f2933 f2934 f2935 f2936 f2937 F2890 (MD2890) (gm) (gk) ((Ne.symm ne2895)) ((Ne.symm ne2896)) (qs1) (qs2) Old2938) hZ (fun vm hW => ⟨own_ib (s := s.setVm s.vm) hI hW, own_lit (s := s) (vm := s.vm) hLi0 hW.wide⟩) (wi hw 145 rfl) (wi hw 54 rfl) (by decide) (by decide)) q2941a q2941b q2941c (g := (mkF m 15 #[vR th, vR fd] [(.ref a2890), (.ref ky), (.ref mp)])) rfl (by rw [hml]; rfl) (Steps.refl _) (argsL := [(.ref ky), (.ref a2890)]) (rest := []) (lenOf pd__Ljava_lang_Object_Ljava_util_function_Function__Ljava_lang_Object_ rfl) rfl (by show 2 * 0 + _ ≤ _; exact Nat.le_of_eq rfl) (hb hby d54_15) (fun _ _ => ⟨rfl, e2890, (by decide : 1 + 8 ≤ _), (by decide : 2 + 80 ≤ _)⟩)
 dsimp only [Pt.U, Pt.locs, Pt.cells, Pt.slots] at X2941 l2941 y2941 z2941 st2941 hQ2941 hSx2941 hgx2941
 subst l2941 y2941 z2941
 have hS2941 := foldS hS0 (by rw [e2890]; exact hk2904) hSx2941 hgx2941
 have hk2941 : T2941.heap.size ≤ T2941.heap.size := Nat.le_refl _
 have hZ2941 : Z.Warmed39 (s.setVm T2941.vm).vm := State.Warmed39.trans (t := s.setVm s.vm) hZ hSx2941.1
 have hown2941 : (s.setVm T2941.vm).vm.findClass "com/example/mandoline/mandoline/Variable" = some m.cls := by rw [show (s.setVm T2941.vm).vm = T2941.vm from rfl, hSx2941.1.alike.findClass]; exact hown
 have X2941w : Stand p l e (Rm 9 9 82 3076) (s.setVm T2941.vm) m _ below meth c T2941 _ _ _ := X2941
 obtain ⟨nv_2941, m2_2941, ns_2941, ts_2941, kts_2941, tv_2941, x2_2941, y2_2941, rfl, NQ2941, K2941, pq2941_0, pq2941_1, pq2941_2, pq2941_3, fq2941_0, fq2941_1, fq2941_2, fq2941_3, fq2941_4, fq2941_5, fq2941_6, fq2941_7, fq2941_8, fq2941_9, fq2941_10, fq2941_11, fq2941_12, fq2941_13, fq2941_14, fq2941_15, fq2941_16, fq2941_17, fq2941_18, fq2941_19, IQ2941⟩ := hQ2941
 have N2942 := Fr.app N2889 NQ2941
 have Kp3036 : Keep h0 T2941.heap [mp, ky] := Kp2940.trans K2941 (allS (Or.inl (List.mem_of_getElem? (i := 0) rfl)) (allS (Or.inl (List.mem_of_getElem? (i := 1) rfl)) all0))
 refine Rch.st (fun _ k => st2941.trans k) ?_
 show Rch p e below T2941 (mkF m 20 #[vR th, vR fd] [(.ref nv_2941)]) _
 obtain ⟨T3038, X3038, e3038, st3038⟩ := castY X2941w hx hZ2941 hown2941 (wi hw 198 rfl) (rfl : T2941.heap = T2941.heap) (Ins.self fq2941_0) (g := (mkF m 20 #[vR th, vR fd] [(.ref nv_2941)])) rfl rfl (hb hby d54_20)
 refine Rch.st (fun _ k => st3038 _ k) ?_
 show Rch p e below T3038 (mkF m 23 #[vR th, vR fd] [(.ref nv_2941)]) _
 exact Rch.retVW X3038 hx hS2941 (by rw [e3038]; exact hk2941) Bd.returns rfl (Or.inr (Or.inr (Or.inr (Or.inr ⟨rfl, rfl, rfl⟩)))) (hb hby d54_23) (by rw [e3038]; exact ⟨nv_2941, m2_2941, ns_2941, ts_2941, kts_2941, tv_2941, x2_2941, y2_2941, rfl, N2942, Kp3036, (Nat.le_trans Kp2940.1 pq2941_0), (Nat.le_trans Kp2940.1 pq2941_1), (Nat.le_trans Kp2940.1 pq2941_2), (Nat.le_trans Kp2940.1 pq2941_3), fq2941_0, fq2941_1, fq2941_2, fq2941_3, fq2941_4, fq2941_5, fq2941_6, fq2941_7, fq2941_8, fq2941_9, fq2941_10, fq2941_11, fq2941_12, fq2941_13, fq2941_14, fq2941_15, fq2941_16, fq2941_17, fq2941_18, fq2941_19, own_ib_mono (own_ib (s := s.setVm T2941.vm) IQ2941 X3038.warmed) (by decide)⟩) (by decide) (by decide)

abbrev c55 : ByteArray := prog_50_method_2_code
theorem d55_0 : decode c55 0 = .ok (.aload_n 0, 1) := by decide +kernel
theorem d55_1 : decode c55 1 = .ok (.aload_n 1, 1) := by decide +kernel
theorem d55_2 : decode c55 2 = .ok (.aload_n 2, 1) := by decide +kernel
theorem d55_3 : decode c55 3 = .ok (.aload_n 3, 1) := by decide +kernel
theorem d55_4 : decode c55 4 = .ok (.aconst_null, 1) := by decide +kernel
theorem d55_5 : decode c55 5 = .ok (.invokespecial 1, 3) := by decide +kernel
theorem d55_8 : decode c55 8 = .ok (.return_, 1) := by decide +kernel
theorem ef_rm_v3 (m : MethodId) (G6 : Addr) (va : Addr) (nm : Addr) (fv : Value) (hfv : fv.isRef = true) : entryFrame m #[(.ref va), (.ref nm), .null, fv] 4 = mkF m 0 #[vR va, vR nm, vN, .val fv] [] := by rcases ref_cases hfv with rfl | ⟨_, rfl⟩ <;> first | (simp [entryFrame, mkF, argsToLocals, Value.category, maxLocals]; done) | rfl
def Q_rm_v3 (Z : State) (G6 : Addr) (va : Addr) (nm : Addr) (fv : Value) (h0 : Heap) (n0 : Nat) (v : Option Value) (h : Heap) (L : List Loc) : Prop := ∃ (m2 : Addr), (v = none) ∧ (Fr n0 L) ∧ (Keep h0 h [va]) ∧ (h0.size ≤ m2) ∧ (Fld Z h va "com/example/mandoline/mandoline/Variable" "fields" "Ljava/util/Map;" (.ref m2)) ∧ (Fld Z h va "com/example/mandoline/mandoline/Variable" "name" "Ljava/lang/String;" (.ref nm)) ∧ (Fld Z h va "com/example/mandoline/mandoline/Variable" "function" "Ljava/lang/String;" fv) ∧ (Fld Z h va "com/example/mandoline/mandoline/Variable" "containing" "Lcom/example/mandoline/mandoline/Variable;" .null) ∧ (Fld Z h va "com/example/mandoline/mandoline/Variable" "declaringStatement" "Lcom/example/mandoline/mandoline/ClangNode;" .null) ∧ (Exa Z h m2 "java/util/LinkedHashMap") ∧ (Fld Z h m2 "java/util/HashMap" "table" "[Ljava/util/HashMap$Node;" .null) ∧ (Fld Z h m2 "java/util/HashMap" "size" "I" (.int (0 : Int32))) ∧ (Fld Z h m2 "java/util/HashMap" "modCount" "I" (.int (0 : Int32))) ∧ (Fld Z h m2 "java/util/HashMap" "threshold" "I" (.int (0 : Int32))) ∧ (Fld Z h m2 "java/util/LinkedHashMap" "putMode" "I" (.int (0 : Int32))) ∧ (Fld Z h m2 "java/util/LinkedHashMap" "head" "Ljava/util/LinkedHashMap$Entry;" .null) ∧ (Fld Z h m2 "java/util/LinkedHashMap" "tail" "Ljava/util/LinkedHashMap$Entry;" .null)
set_option maxRecDepth 65536 in
set_option maxHeartbeats 40000000 in
theorem rm_v3 (l : Launch) (Z : State) (a0 : Array Value) (hw : ∀ d ∈ tables_1, d.before a0 Z = true) (ws : List Jvm.Cond) (G6 : Addr) (va : Addr) (nm : Addr) (fv : Value) (h0 : Heap) (n0 : Nat) (Z0 : n0 ≤ h0.size) (O6 : Sta Z Z.heap "java/util/ImmutableCollections" "EMPTY_LIST" "Ljava/util/ImmutableCollections$ListN;" (.ref G6)) (f1 : Exa Z h0 va "com/example/mandoline/mandoline/Variable") (f2 : Fld Z h0 va "com/example/mandoline/mandoline/Variable" "fields" "Ljava/util/Map;" .null) (f3 : Fld Z h0 va "com/example/mandoline/mandoline/Variable" "declarationNodes" "Ljava/util/List;" .null) (f4 : Fld Z h0 va "com/example/mandoline/mandoline/Variable" "name" "Ljava/lang/String;" .null) (f5 : Fld Z h0 va "com/example/mandoline/mandoline/Variable" "declaringStatement" "Lcom/example/mandoline/mandoline/ClangNode;" .null) (f6 : Fld Z h0 va "com/example/mandoline/mandoline/Variable" "function" "Ljava/lang/String;" .null) (f7 : Fld Z h0 va "com/example/mandoline/mandoline/Variable" "containing" "Lcom/example/mandoline/mandoline/Variable;" .null) (gv : n0 ≤ va) (hfv : fv.isRef = true) (Old0 : OldL Z n0 h0) :
    MetN l Z y_60 c55 4 none ws (Rm 5 1 12 66) #[(.ref va), (.ref nm), .null, fv] h0 (Q_rm_v3 Z G6 va nm fv h0 n0) := by
 refine MetFree.of_bodySF (plainFor_of_name pn_com_example_mandoline_mandoline_Variable) hisR ?_
 intro p e s m args below meth c s₁ Bd hml0 hP hK
 obtain ⟨rfl, hZ, hh⟩ := hP
 have hx := Bd.exec
 have hby := Bd.bytes
 have hml : c.maxLocals = 4 := hml0
 have hown : s.vm.findClass "com/example/mandoline/mandoline/Variable" = some m.cls := findClass_of_methodNamed Bd.named
 have X0 : Stand p l e (Rm 5 1 12 66) s m #[(.ref va), (.ref nm), .null, fv] below meth c s₁ [] 0 0 := Stand.of_body Bd
 have e0 : s₁.heap = h0 := by rw [← hh, Bd.state]; rfl
 have N0 := Fr.nil n0
 have K00 : Keep h0 h0 [va] := Keep.refl _ _
 show Rch p e below s₁ (entryFrame m #[(.ref va), (.ref nm), .null, fv] 4) (FinP s (Q_rm_v3 Z G6 va nm fv h0 n0) 1 12)
 refine Rch.cast (ef_rm_v3 m G6 va nm fv hfv) ?_
 show Rch p e below s₁ (mkF m 0 #[vR va, vR nm, vN, .val fv] []) _
 refine w_aloadN (pc' := 1) X0 hx hby d55_0 rfl rfl rfl ?_
 refine w_aloadN (pc' := 2) X0 hx hby d55_1 rfl rfl rfl ?_
 refine w_aloadN (pc' := 3) X0 hx hby d55_2 rfl rfl rfl ?_
 refine w_aloadN (pc' := 4) X0 hx hby d55_3 rfl hfv rfl ?_
 refine w_aconstNull (pc' := 5) X0 hx hby d55_4 rfl ?_
 obtain ⟨_, _, ⟨T3039, L3039, k3039, n3039⟩, -, X3039, ⟨Lc3039, hQ3039, l3039, y3039, z3039⟩, st3039⟩ := X0.specialBack hx (y := y_36) rfl hown (mvT hZ (wi hw 40 rfl)) (mvT hZ (wi hw 41 rfl)) (mvT hZ (wi hw 42 rfl)) (by decide) (backOf (W := 0) (rm_v4 l Z a0 hw [] G6 va nm .null fv .null h0 n0 Z0 (O6) f1 f2 f3 f4 f5 f6 f7 (gv) (rfl) (hfv) (rfl) Old0) hZ (wi hw 42 rfl) (wi hw 36 rfl) (by decide) (by decide)) (g := (mkF m 5 #[vR va, vR nm, vN, .val fv] [.null, fv, .null, (.ref nm), (.ref va)])) rfl (by rw [hml]; rfl) (Steps.refl _) (a := va) (argsL := [(.ref nm), .null, fv, .null]) (rest := []) (lenOf pd__Ljava_lang_String_Lcom_example_mandoline_mandoline_ClangNode_Ljava_lang_String_Lcom_example_mandoline_mandoline_Variable__V rfl) rfl (by show 2 * 0 + _ ≤ _; exact Nat.le_of_eq rfl) (hb hby d55_5) (fun _ _ => ⟨rfl, e0, (by decide : 0 + 1 ≤ _), (by decide : 0 + 12 ≤ _)⟩)
 dsimp only [Pt.U, Pt.locs, Pt.cells, Pt.slots] at X3039 l3039 y3039 z3039 st3039 hQ3039
 subst l3039 y3039 z3039
 obtain ⟨m2_3039, rfl, NQ3039, K3039, pq3039_0, fq3039_0, fq3039_1, fq3039_2, fq3039_3, fq3039_4, fq3039_5, fq3039_6, fq3039_7, fq3039_8, fq3039_9, fq3039_10, fq3039_11, fq3039_12⟩ := hQ3039
 have N3040 := Fr.app N0 NQ3039
 have Kp3045 : Keep h0 T3039.heap [va] := K00.trans K3039 (allS (Or.inl (List.mem_of_getElem? (i := 0) rfl)) all0)
 refine Rch.st (fun _ k => st3039.trans k) ?_
 show Rch p e below T3039 (mkF m 8 #[vR va, vR nm, vN, .val fv] []) _
 exact Rch.ret0 X3039 hx Bd.returns (hb hby d55_8) (by rw [(rfl : T3039.heap = T3039.heap)]; exact ⟨m2_3039, rfl, N3040, Kp3045, (Nat.le_trans K00.1 pq3039_0), fq3039_0, fq3039_1, fq3039_2, fq3039_3, fq3039_4, fq3039_5, fq3039_6, fq3039_7, fq3039_8, fq3039_9, fq3039_10, fq3039_11, fq3039_12⟩) (by decide) (by decide)

abbrev c56 : ByteArray := prog_50_method_1_code
theorem d56_0 : decode c56 0 = .ok (.aload_n 0, 1) := by decide +kernel
theorem d56_1 : decode c56 1 = .ok (.aload_n 1, 1) := by decide +kernel
theorem d56_2 : decode c56 2 = .ok (.aload_n 2, 1) := by decide +kernel
theorem d56_3 : decode c56 3 = .ok (.aconst_null, 1) := by decide +kernel
theorem d56_4 : decode c56 4 = .ok (.aconst_null, 1) := by decide +kernel
theorem d56_5 : decode c56 5 = .ok (.invokespecial 1, 3) := by decide +kernel
theorem d56_8 : decode c56 8 = .ok (.return_, 1) := by decide +kernel
theorem ef_rm_v2 (m : MethodId) (G6 : Addr) (va : Addr) (nm : Addr)  : entryFrame m #[(.ref va), (.ref nm), .null] 3 = mkF m 0 #[vR va, vR nm, vN] [] := by  first | (simp [entryFrame, mkF, argsToLocals, Value.category, maxLocals]; done) | rfl
def Q_rm_v2 (Z : State) (G6 : Addr) (va : Addr) (nm : Addr) (h0 : Heap) (n0 : Nat) (v : Option Value) (h : Heap) (L : List Loc) : Prop := ∃ (m2 : Addr), (v = none) ∧ (Fr n0 L) ∧ (Keep h0 h [va]) ∧ (h0.size ≤ m2) ∧ (Fld Z h va "com/example/mandoline/mandoline/Variable" "fields" "Ljava/util/Map;" (.ref m2)) ∧ (Fld Z h va "com/example/mandoline/mandoline/Variable" "name" "Ljava/lang/String;" (.ref nm)) ∧ (Fld Z h va "com/example/mandoline/mandoline/Variable" "function" "Ljava/lang/String;" .null) ∧ (Fld Z h va "com/example/mandoline/mandoline/Variable" "containing" "Lcom/example/mandoline/mandoline/Variable;" .null) ∧ (Fld Z h va "com/example/mandoline/mandoline/Variable" "declaringStatement" "Lcom/example/mandoline/mandoline/ClangNode;" .null) ∧ (Exa Z h m2 "java/util/LinkedHashMap") ∧ (Fld Z h m2 "java/util/HashMap" "table" "[Ljava/util/HashMap$Node;" .null) ∧ (Fld Z h m2 "java/util/HashMap" "size" "I" (.int (0 : Int32))) ∧ (Fld Z h m2 "java/util/HashMap" "modCount" "I" (.int (0 : Int32))) ∧ (Fld Z h m2 "java/util/HashMap" "threshold" "I" (.int (0 : Int32))) ∧ (Fld Z h m2 "java/util/LinkedHashMap" "putMode" "I" (.int (0 : Int32))) ∧ (Fld Z h m2 "java/util/LinkedHashMap" "head" "Ljava/util/LinkedHashMap$Entry;" .null) ∧ (Fld Z h m2 "java/util/LinkedHashMap" "tail" "Ljava/util/LinkedHashMap$Entry;" .null)
set_option maxRecDepth 65536 in
set_option maxHeartbeats 40000000 in
theorem rm_v2 (l : Launch) (Z : State) (a0 : Array Value) (hw : ∀ d ∈ tables_1, d.before a0 Z = true) (ws : List Jvm.Cond) (G6 : Addr) (va : Addr) (nm : Addr) (h0 : Heap) (n0 : Nat) (Z0 : n0 ≤ h0.size) (O6 : Sta Z Z.heap "java/util/ImmutableCollections" "EMPTY_LIST" "Ljava/util/ImmutableCollections$ListN;" (.ref G6)) (f1 : Exa Z h0 va "com/example/mandoline/mandoline/Variable") (f2 : Fld Z h0 va "com/example/mandoline/mandoline/Variable" "fields" "Ljava/util/Map;" .null) (f3 : Fld Z h0 va "com/example/mandoline/mandoline/Variable" "declarationNodes" "Ljava/util/List;" .null) (f4 : Fld Z h0 va "com/example/mandoline/mandoline/Variable" "name" "Ljava/lang/String;" .null) (f5 : Fld Z h0 va "com/example/mandoline/mandoline/Variable" "declaringStatement" "Lcom/example/mandoline/mandoline/ClangNode;" .null) (f6 : Fld Z h0 va "com/example/mandoline/mandoline/Variable" "function" "Ljava/lang/String;" .null) (f7 : Fld Z h0 va "com/example/mandoline/mandoline/Variable" "containing" "Lcom/example/mandoline/mandoline/Variable;" .null) (gv : n0 ≤ va) (Old0 : OldL Z n0 h0) :
    MetN l Z y_61 c56 3 none ws (Rm 5 1 12 66) #[(.ref va), (.ref nm), .null] h0 (Q_rm_v2 Z G6 va nm h0 n0) := by
 refine MetFree.of_bodySF (plainFor_of_name pn_com_example_mandoline_mandoline_Variable) hisR ?_
 intro p e s m args below meth c s₁ Bd hml0 hP hK
 obtain ⟨rfl, hZ, hh⟩ := hP
 have hx := Bd.exec
 have hby := Bd.bytes
 have hml : c.maxLocals = 3 := hml0
 have hown : s.vm.findClass "com/example/mandoline/mandoline/Variable" = some m.cls := findClass_of_methodNamed Bd.named
 have X0 : Stand p l e (Rm 5 1 12 66) s m #[(.ref va), (.ref nm), .null] below meth c s₁ [] 0 0 := Stand.of_body Bd
 have e0 : s₁.heap = h0 := by rw [← hh, Bd.state]; rfl
 have N0 := Fr.nil n0
 have K00 : Keep h0 h0 [va] := Keep.refl _ _
 show Rch p e below s₁ (entryFrame m #[(.ref va), (.ref nm), .null] 3) (FinP s (Q_rm_v2 Z G6 va nm h0 n0) 1 12)
 refine Rch.cast (ef_rm_v2 m G6 va nm) ?_
 show Rch p e below s₁ (mkF m 0 #[vR va, vR nm, vN] []) _
 refine w_aloadN (pc' := 1) X0 hx hby d56_0 rfl rfl rfl ?_
 refine w_aloadN (pc' := 2) X0 hx hby d56_1 rfl rfl rfl ?_
 refine w_aloadN (pc' := 3) X0 hx hby d56_2 rfl rfl rfl ?_
 refine w_aconstNull (pc' := 4) X0 hx hby d56_3 rfl ?_
 refine w_aconstNull (pc' := 5) X0 hx hby d56_4 rfl ?_
 obtain ⟨_, _, ⟨T3047, L3047, k3047, n3047⟩, -, X3047, ⟨Lc3047, hQ3047, l3047, y3047, z3047⟩, st3047⟩ := X0.specialBack hx (y := y_36) rfl hown (mvT hZ (wi hw 40 rfl)) (mvT hZ (wi hw 41 rfl)) (mvT hZ (wi hw 42 rfl)) (by decide) (backOf (W := 0) (rm_v4 l Z a0 hw [] G6 va nm .null .null .null h0 n0 Z0 (O6) f1 f2 f3 f4 f5 f6 f7 (gv) (rfl) (rfl) (rfl) Old0) hZ (wi hw 42 rfl) (wi hw 36 rfl) (by decide) (by decide)) (g := (mkF m 5 #[vR va, vR nm, vN] [.null, .null, .null, (.ref nm), (.ref va)])) rfl (by rw [hml]; rfl) (Steps.refl _) (a := va) (argsL := [(.ref nm), .null, .null, .null]) (rest := []) (lenOf pd__Ljava_lang_String_Lcom_example_mandoline_mandoline_ClangNode_Ljava_lang_String_Lcom_example_mandoline_mandoline_Variable__V rfl) rfl (by show 2 * 0 + _ ≤ _; exact Nat.le_of_eq rfl) (hb hby d56_5) (fun _ _ => ⟨rfl, e0, (by decide : 0 + 1 ≤ _), (by decide : 0 + 12 ≤ _)⟩)
 dsimp only [Pt.U, Pt.locs, Pt.cells, Pt.slots] at X3047 l3047 y3047 z3047 st3047 hQ3047
 subst l3047 y3047 z3047
 obtain ⟨m2_3047, rfl, NQ3047, K3047, pq3047_0, fq3047_0, fq3047_1, fq3047_2, fq3047_3, fq3047_4, fq3047_5, fq3047_6, fq3047_7, fq3047_8, fq3047_9, fq3047_10, fq3047_11, fq3047_12⟩ := hQ3047
 have N3048 := Fr.app N0 NQ3047
 have Kp3053 : Keep h0 T3047.heap [va] := K00.trans K3047 (allS (Or.inl (List.mem_of_getElem? (i := 0) rfl)) all0)
 refine Rch.st (fun _ k => st3047.trans k) ?_
 show Rch p e below T3047 (mkF m 8 #[vR va, vR nm, vN] []) _
 exact Rch.ret0 X3047 hx Bd.returns (hb hby d56_8) (by rw [(rfl : T3047.heap = T3047.heap)]; exact ⟨m2_3047, rfl, N3048, Kp3053, (Nat.le_trans K00.1 pq3047_0), fq3047_0, fq3047_1, fq3047_2, fq3047_3, fq3047_4, fq3047_5, fq3047_6, fq3047_7, fq3047_8, fq3047_9, fq3047_10, fq3047_11, fq3047_12⟩) (by decide) (by decide)

abbrev c57 : ByteArray := prog_50_method_8_code
theorem d57_0 : decode c57 0 = .ok (.aload_n 0, 1) := by decide +kernel
theorem d57_1 : decode c57 1 = .ok (.getfield 40, 3) := by decide +kernel
theorem d57_4 : decode c57 4 = .ok (.ifnull 13, 3) := by decide +kernel
theorem d57_7 : decode c57 7 = .ok (.aload_n 0, 1) := by decide +kernel
theorem d57_8 : decode c57 8 = .ok (.getfield 40, 3) := by decide +kernel
theorem d57_11 : decode c57 11 = .ok (.invokevirtual 53, 3) := by decide +kernel
theorem d57_14 : decode c57 14 = .ok (.goto 7, 3) := by decide +kernel
theorem d57_17 : decode c57 17 = .ok (.aload_n 0, 1) := by decide +kernel
theorem d57_18 : decode c57 18 = .ok (.getfield 37, 3) := by decide +kernel
theorem d57_21 : decode c57 21 = .ok (.areturn, 1) := by decide +kernel
theorem ef_rm_fn0 (m : MethodId) (v0 : Addr) (fv : Value)  : entryFrame m #[(.ref v0)] 1 = mkF m 0 #[vR v0] [] := by  first | (simp [entryFrame, mkF, argsToLocals, Value.category, maxLocals]; done) | rfl
def Q_rm_fn0 (Z : State) (v0 : Addr) (fv : Value) (h0 : Heap) (n0 : Nat) (v : Option Value) (h : Heap) (L : List Loc) : Prop := (v = some fv) ∧ (Fr n0 L) ∧ (h = h0)
set_option maxRecDepth 65536 in
set_option maxHeartbeats 40000000 in
theorem rm_fn0 (l : Launch) (Z : State) (a0 : Array Value) (hw : ∀ d ∈ tables_1, d.before a0 Z = true) (ws : List Jvm.Cond) (v0 : Addr) (fv : Value) (h0 : Heap) (n0 : Nat) (Z0 : n0 ≤ h0.size) (f0 : Exa Z h0 v0 "com/example/mandoline/mandoline/Variable") (f1 : Fld Z h0 v0 "com/example/mandoline/mandoline/Variable" "containing" "Lcom/example/mandoline/mandoline/Variable;" .null) (f2 : Fld Z h0 v0 "com/example/mandoline/mandoline/Variable" "function" "Ljava/lang/String;" fv) (hfv : fv.isRef = true) :
    MetN l Z y_62 c57 1 (some (.object "java/lang/String")) ws (Rm 0 0 0 0) #[(.ref v0)] h0 (Q_rm_fn0 Z v0 fv h0 n0) := by
 refine MetFree.of_bodySF (plainFor_of_name pn_com_example_mandoline_mandoline_Variable) hisR ?_
 intro p e s m args below meth c s₁ Bd hml0 hP hK
 obtain ⟨rfl, hZ, hh⟩ := hP
 have hx := Bd.exec
 have hby := Bd.bytes
 have hml : c.maxLocals = 1 := hml0
 have hown : s.vm.findClass "com/example/mandoline/mandoline/Variable" = some m.cls := findClass_of_methodNamed Bd.named
 have X0 : Stand p l e (Rm 0 0 0 0) s m #[(.ref v0)] below meth c s₁ [] 0 0 := Stand.of_body Bd
 have e0 : s₁.heap = h0 := by rw [← hh, Bd.state]; rfl
 have N0 := Fr.nil n0
 have K00 : Keep h0 h0 [] := Keep.refl _ _
 show Rch p e below s₁ (entryFrame m #[(.ref v0)] 1) (FinP s (Q_rm_fn0 Z v0 fv h0 n0) 0 0)
 refine Rch.cast (ef_rm_fn0 m v0 fv) ?_
 show Rch p e below s₁ (mkF m 0 #[vR v0] []) _
 refine w_aloadN (pc' := 1) X0 hx hby d57_0 rfl rfl rfl ?_
 obtain ⟨T3055, X3055, e3055, st3055⟩ := getF X0 hx hZ hown (host := "") (Or.inl (wi hw 86 rfl)) Via.refl e0 f1 (g := (mkF m 1 #[vR v0] [(.ref v0)])) rfl rfl (hb hby d57_1)
 refine Rch.st (fun _ k => st3055 _ k) ?_
 show Rch p e below T3055 (mkF m 4 #[vR v0] [.null]) _
 refine w_nullYes (pc' := 17) X3055 hx hby d57_4 (rfl) (by decide) ?_
 refine w_aloadN (pc' := 18) X3055 hx hby d57_17 rfl rfl rfl ?_
 obtain ⟨T3056, X3056, e3056, st3056⟩ := getF X3055 hx hZ hown (host := "") (Or.inl (wi hw 84 rfl)) Via.refl e3055 f2 (g := (mkF m 18 #[vR v0] [(.ref v0)])) rfl rfl (hb hby d57_18)
 refine Rch.st (fun _ k => st3056 _ k) ?_
 show Rch p e below T3056 (mkF m 21 #[vR v0] [fv]) _
 exact Rch.retV X3056 hx Bd.returns (Rnar hfv) (Or.inr (Or.inr (Or.inr (Or.inr ⟨rfl, rfl, hfv⟩)))) (hb hby d57_21) (by rw [e3056]; exact ⟨rfl, N0, rfl⟩) (by decide) (by decide)

theorem ef_rm_fn1 (m : MethodId) (v0 : Addr) (v1 : Addr) (fv : Value)  : entryFrame m #[(.ref v0)] 1 = mkF m 0 #[vR v0] [] := by  first | (simp [entryFrame, mkF, argsToLocals, Value.category, maxLocals]; done) | rfl
def Q_rm_fn1 (Z : State) (v0 : Addr) (v1 : Addr) (fv : Value) (h0 : Heap) (n0 : Nat) (v : Option Value) (h : Heap) (L : List Loc) : Prop := (v = some fv) ∧ (Fr n0 L) ∧ (h = h0)
set_option maxRecDepth 65536 in
set_option maxHeartbeats 40000000 in
theorem rm_fn1 (l : Launch) (Z : State) (a0 : Array Value) (hw : ∀ d ∈ tables_1, d.before a0 Z = true) (ws : List Jvm.Cond) (v0 : Addr) (v1 : Addr) (fv : Value) (h0 : Heap) (n0 : Nat) (Z0 : n0 ≤ h0.size) (f0 : Exa Z h0 v0 "com/example/mandoline/mandoline/Variable") (f1 : Fld Z h0 v0 "com/example/mandoline/mandoline/Variable" "containing" "Lcom/example/mandoline/mandoline/Variable;" (.ref v1)) (f2 : Exa Z h0 v1 "com/example/mandoline/mandoline/Variable") (f3 : Fld Z h0 v1 "com/example/mandoline/mandoline/Variable" "containing" "Lcom/example/mandoline/mandoline/Variable;" .null) (f4 : Fld Z h0 v1 "com/example/mandoline/mandoline/Variable" "function" "Ljava/lang/String;" fv) (hfv : fv.isRef = true) :
    MetN l Z y_62 c57 1 (some (.object "java/lang/String")) ws (Rm 1 0 0 12) #[(.ref v0)] h0 (Q_rm_fn1 Z v0 v1 fv h0 n0) := by
 refine MetFree.of_bodySF (plainFor_of_name pn_com_example_mandoline_mandoline_Variable) hisR ?_
 intro p e s m args below meth c s₁ Bd hml0 hP hK
 obtain ⟨rfl, hZ, hh⟩ := hP
 have hx := Bd.exec
 have hby := Bd.bytes
 have hml : c.maxLocals = 1 := hml0
 have hown : s.vm.findClass "com/example/mandoline/mandoline/Variable" = some m.cls := findClass_of_methodNamed Bd.named
 have X0 : Stand p l e (Rm 1 0 0 12) s m #[(.ref v0)] below meth c s₁ [] 0 0 := Stand.of_body Bd
 have e0 : s₁.heap = h0 := by rw [← hh, Bd.state]; rfl
 have N0 := Fr.nil n0
 have K00 : Keep h0 h0 [] := Keep.refl _ _
 show Rch p e below s₁ (entryFrame m #[(.ref v0)] 1) (FinP s (Q_rm_fn1 Z v0 v1 fv h0 n0) 0 0)
 refine Rch.cast (ef_rm_fn1 m v0 v1 fv) ?_
 show Rch p e below s₁ (mkF m 0 #[vR v0] []) _
 refine w_aloadN (pc' := 1) X0 hx hby d57_0 rfl rfl rfl ?_
 obtain ⟨T3057, X3057, e3057, st3057⟩ := getF X0 hx hZ hown (host := "") (Or.inl (wi hw 86 rfl)) Via.refl e0 f1 (g := (mkF m 1 #[vR v0] [(.ref v0)])) rfl rfl (hb hby d57_1)
 refine Rch.st (fun _ k => st3057 _ k) ?_
 show Rch p e below T3057 (mkF m 4 #[vR v0] [(.ref v1)]) _
 refine w_nullNo (pc' := 7) X3057 hx hby d57_4 rfl (fun q => nomatch q) rfl ?_
 refine w_aloadN (pc' := 8) X3057 hx hby d57_7 rfl rfl rfl ?_
 obtain ⟨T3058, X3058, e3058, st3058⟩ := getF X3057 hx hZ hown (host := "") (Or.inl (wi hw 86 rfl)) Via.refl e3057 f1 (g := (mkF m 8 #[vR v0] [(.ref v0)])) rfl rfl (hb hby d57_8)
 refine Rch.st (fun _ k => st3058 _ k) ?_
 show Rch p e below T3058 (mkF m 11 #[vR v0] [(.ref v1)]) _
 obtain ⟨cq3059, kq3059, q3059a, q3059b, q3059c⟩ := isOf hZ e3058 f2
 obtain ⟨_, _, ⟨T3059, L3059, k3059, n3059⟩, -, X3059, ⟨Lc3059, hQ3059, l3059, y3059, z3059⟩, st3059⟩ := X3058.virtualBack hx (y := y_62) (z := y_62) hown (mvT hZ (wi hw 257 rfl)) (mvT hZ (wi hw 89 rfl)) (notFace_of_selects (args := #[]) (mvT hZ (wi hw 91 rfl))) (mvT hZ (wi hw 91 rfl)) (mvT hZ (wi hw 90 rfl)) (by decide) (backOf (W := 0) (rm_fn0 l Z a0 hw [] v1 fv h0 n0 Z0 f2 f3 f4 (hfv)) hZ (wi hw 92 rfl) (wi hw 36 rfl) (by decide) (by decide)) q3059a q3059c (g := (mkF m 11 #[vR v0] [(.ref v1)])) rfl (by rw [hml]; rfl) (Steps.refl _) (argsL := []) (rest := []) (lenOf pd___Ljava_lang_String_ rfl) rfl (by show 2 * 0 + _ ≤ _; exact Nat.le_of_eq rfl) (hb hby d57_11) (fun _ _ => ⟨rfl, e3058, (by decide : 0 + 0 ≤ _), (by decide : 0 + 0 ≤ _)⟩)
 dsimp only [Pt.U, Pt.locs, Pt.cells, Pt.slots] at X3059 l3059 y3059 z3059 st3059 hQ3059
 subst l3059 y3059 z3059
 obtain ⟨rfl, NQ3059, K3059⟩ := hQ3059
 have N3060 := Fr.app N0 NQ3059
 refine Rch.st (fun _ k => st3059.trans k) ?_
 show Rch p e below T3059 (mkF m 14 #[vR v0] [fv]) _
 refine w_goto (pc' := 21) X3059 hx hby d57_14 (by decide) ?_
 exact Rch.retV X3059 hx Bd.returns (Rnar hfv) (Or.inr (Or.inr (Or.inr (Or.inr ⟨rfl, rfl, hfv⟩)))) (hb hby d57_21) (by rw [K3059]; exact ⟨rfl, N3060, rfl⟩) (by decide) (by decide)

theorem ef_rm_fn2 (m : MethodId) (v0 : Addr) (v1 : Addr) (v2 : Addr) (fv : Value)  : entryFrame m #[(.ref v0)] 1 = mkF m 0 #[vR v0] [] := by  first | (simp [entryFrame, mkF, argsToLocals, Value.category, maxLocals]; done) | rfl
def Q_rm_fn2 (Z : State) (v0 : Addr) (v1 : Addr) (v2 : Addr) (fv : Value) (h0 : Heap) (n0 : Nat) (v : Option Value) (h : Heap) (L : List Loc) : Prop := (v = some fv) ∧ (Fr n0 L) ∧ (h = h0)
set_option maxRecDepth 65536 in
set_option maxHeartbeats 40000000 in
theorem rm_fn2 (l : Launch) (Z : State) (a0 : Array Value) (hw : ∀ d ∈ tables_1, d.before a0 Z = true) (ws : List Jvm.Cond) (v0 : Addr) (v1 : Addr) (v2 : Addr) (fv : Value) (h0 : Heap) (n0 : Nat) (Z0 : n0 ≤ h0.size) (f0 : Exa Z h0 v0 "com/example/mandoline/mandoline/Variable") (f1 : Fld Z h0 v0 "com/example/mandoline/mandoline/Variable" "containing" "Lcom/example/mandoline/mandoline/Variable;" (.ref v1)) (f2 : Exa Z h0 v1 "com/example/mandoline/mandoline/Variable") (f3 : Fld Z h0 v1 "com/example/mandoline/mandoline/Variable" "containing" "Lcom/example/mandoline/mandoline/Variable;" (.ref v2)) (f4 : Exa Z h0 v2 "com/example/mandoline/mandoline/Variable") (f5 : Fld Z h0 v2 "com/example/mandoline/mandoline/Variable" "containing" "Lcom/example/mandoline/mandoline/Variable;" .null) (f6 : Fld Z h0 v2 "com/example/mandoline/mandoline/Variable" "function" "Ljava/lang/String;" fv) (hfv : fv.isRef = true) :
    MetN l Z y_62 c57 1 (some (.object "java/lang/String")) ws (Rm 2 0 0 24) #[(.ref v0)] h0 (Q_rm_fn2 Z v0 v1 v2 fv h0 n0) := by
 refine MetFree.of_bodySF (plainFor_of_name pn_com_example_mandoline_mandoline_Variable) hisR ?_
 intro p e s m args below meth c s₁ Bd hml0 hP hK
 obtain ⟨rfl, hZ, hh⟩ := hP
 have hx := Bd.exec
 have hby := Bd.bytes
 have hml : c.maxLocals = 1 := hml0
 have hown : s.vm.findClass "com/example/mandoline/mandoline/Variable" = some m.cls := findClass_of_methodNamed Bd.named
 have X0 : Stand p l e (Rm 2 0 0 24) s m #[(.ref v0)] below meth c s₁ [] 0 0 := Stand.of_body Bd
 have e0 : s₁.heap = h0 := by rw [← hh, Bd.state]; rfl
 have N0 := Fr.nil n0
 have K00 : Keep h0 h0 [] := Keep.refl _ _
 show Rch p e below s₁ (entryFrame m #[(.ref v0)] 1) (FinP s (Q_rm_fn2 Z v0 v1 v2 fv h0 n0) 0 0)
 refine Rch.cast (ef_rm_fn2 m v0 v1 v2 fv) ?_
 show Rch p e below s₁ (mkF m 0 #[vR v0] []) _
 refine w_aloadN (pc' := 1) X0 hx hby d57_0 rfl rfl rfl ?_
 obtain ⟨T3061, X3061, e3061, st3061⟩ := getF X0 hx hZ hown (host := "") (Or.inl (wi hw 86 rfl)) Via.refl e0 f1 (g := (mkF m 1 #[vR v0] [(.ref v0)])) rfl rfl (hb hby d57_1)
 refine Rch.st (fun _ k => st3061 _ k) ?_
 show Rch p e below T3061 (mkF m 4 #[vR v0] [(.ref v1)]) _
 refine w_nullNo (pc' := 7) X3061 hx hby d57_4 rfl (fun q => nomatch q) rfl ?_
 refine w_aloadN (pc' := 8) X3061 hx hby d57_7 rfl rfl rfl ?_
 obtain ⟨T3062, X3062, e3062, st3062⟩ := getF X3061 hx hZ hown (host := "") (Or.inl (wi hw 86 rfl)) Via.refl e3061 f1 (g := (mkF m 8 #[vR v0] [(.ref v0)])) rfl rfl (hb hby d57_8)
 refine Rch.st (fun _ k => st3062 _ k) ?_
 show Rch p e below T3062 (mkF m 11 #[vR v0] [(.ref v1)]) _
 obtain ⟨cq3063, kq3063, q3063a, q3063b, q3063c⟩ := isOf hZ e3062 f2
 obtain ⟨_, _, ⟨T3063, L3063, k3063, n3063⟩, -, X3063, ⟨Lc3063, hQ3063, l3063, y3063, z3063⟩, st3063⟩ := X3062.virtualBack hx (y := y_62) (z := y_62) hown (mvT hZ (wi hw 257 rfl)) (mvT hZ (wi hw 89 rfl)) (notFace_of_selects (args := #[]) (mvT hZ (wi hw 91 rfl))) (mvT hZ (wi hw 91 rfl)) (mvT hZ (wi hw 90 rfl)) (by decide) (backOf (W := 0) (rm_fn1 l Z a0 hw [] v1 v2 fv h0 n0 Z0 f2 f3 f4 f5 f6 (hfv)) hZ (wi hw 92 rfl) (wi hw 36 rfl) (by decide) (by decide)) q3063a q3063c (g := (mkF m 11 #[vR v0] [(.ref v1)])) rfl (by rw [hml]; rfl) (Steps.refl _) (argsL := []) (rest := []) (lenOf pd___Ljava_lang_String_ rfl) rfl (by show 2 * 0 + _ ≤ _; exact Nat.le_of_eq rfl) (hb hby d57_11) (fun _ _ => ⟨rfl, e3062, (by decide : 0 + 0 ≤ _), (by decide : 0 + 0 ≤ _)⟩)
 dsimp only [Pt.U, Pt.locs, Pt.cells, Pt.slots] at X3063 l3063 y3063 z3063 st3063 hQ3063
 subst l3063 y3063 z3063
 obtain ⟨rfl, NQ3063, K3063⟩ := hQ3063
 have N3064 := Fr.app N0 NQ3063
 refine Rch.st (fun _ k => st3063.trans k) ?_
 show Rch p e below T3063 (mkF m 14 #[vR v0] [fv]) _
 refine w_goto (pc' := 21) X3063 hx hby d57_14 (by decide) ?_
 exact Rch.retV X3063 hx Bd.returns (Rnar hfv) (Or.inr (Or.inr (Or.inr (Or.inr ⟨rfl, rfl, hfv⟩)))) (hb hby d57_21) (by rw [K3063]; exact ⟨rfl, N3064, rfl⟩) (by decide) (by decide)

theorem ef_rm_law (m : MethodId) (G1 : Int32) (G6 : Addr) (nbits : Int32) (fbits : Int32) (dbits : Int32) (mode : Int32)  : entryFrame m #[(.int nbits), (.int fbits), (.int dbits), (.int mode)] maxLocals = mkF m 0 #[vI nbits, vI fbits, vI dbits, vI mode, U, U, U, U, U, U, U, U, U, U] [] := by  first | (simp [entryFrame, mkF, argsToLocals, Value.category, maxLocals]; done) | rfl
def Q_rm_law (Z : State) (G1 : Int32) (G6 : Addr) (nbits : Int32) (fbits : Int32) (dbits : Int32) (mode : Int32) (h0 : Heap) (n0 : Nat) (v : Option Value) (h : Heap) (vm : Vm) (L : List Loc) : Prop := (v = some (.int (1 : Int32))) ∧ (Fr n0 L) ∧ (Keep h0 h []) ∧ (IB Z vm (["", "."] : List String))
theorem pd__I_Ljava_lang_String_ : parseMethodDescriptor "(I)Ljava/lang/String;" = some ⟨[.int], (some (.object "java/lang/String"))⟩ := by decide +kernel
theorem pd__Ljava_lang_String_Ljava_lang_String__Z : parseMethodDescriptor "(Ljava/lang/String;Ljava/lang/String;)Z" = some ⟨[(.object "java/lang/String"), (.object "java/lang/String")], (some .boolean)⟩ := by decide +kernel
theorem pd__Ljava_lang_String_Ljava_lang_String__V : parseMethodDescriptor "(Ljava/lang/String;Ljava/lang/String;)V" = some ⟨[(.object "java/lang/String"), (.object "java/lang/String")], none⟩ := by decide +kernel
theorem pd__Lcom_example_mandoline_mandoline_Place_Field__Lcom_example_mandoline_mandoline_Variable_ : parseMethodDescriptor "(Lcom/example/mandoline/mandoline/Place$Field;)Lcom/example/mandoline/mandoline/Variable;" = some ⟨[(.object "com/example/mandoline/mandoline/Place$Field")], (some (.object "com/example/mandoline/mandoline/Variable"))⟩ := by decide +kernel
theorem pd__Ljava_lang_String_Lcom_example_mandoline_mandoline_ClangNode__V : parseMethodDescriptor "(Ljava/lang/String;Lcom/example/mandoline/mandoline/ClangNode;)V" = some ⟨[(.object "java/lang/String"), (.object "com/example/mandoline/mandoline/ClangNode")], none⟩ := by decide +kernel
theorem pd__Ljava_lang_String_Lcom_example_mandoline_mandoline_ClangNode_Ljava_lang_String__V : parseMethodDescriptor "(Ljava/lang/String;Lcom/example/mandoline/mandoline/ClangNode;Ljava/lang/String;)V" = some ⟨[(.object "java/lang/String"), (.object "com/example/mandoline/mandoline/ClangNode"), (.object "java/lang/String")], none⟩ := by decide +kernel
set_option maxRecDepth 65536 in
set_option maxHeartbeats 40000000 in
theorem rm_law (l : Launch) (Z : State) (a0 : Array Value) (hw : ∀ d ∈ tables_1, d.before a0 Z = true) (ws : List Jvm.Cond) (G1 : Int32) (G6 : Addr) (nbits : Int32) (fbits : Int32) (dbits : Int32) (mode : Int32) (h0 : Heap) (n0 : Nat) (Z0 : n0 ≤ h0.size) (O2 : Sta Z Z.heap "java/lang/String" "COMPACT_STRINGS" "Z" (.int G1)) (P5 : ¬ G1 = 0) (O6 : Sta Z Z.heap "java/util/ImmutableCollections" "EMPTY_LIST" "Ljava/util/ImmutableCollections$ListN;" (.ref G6)) (H131 : Jvm.Lit.constHeld Z "com/example/mandoline/mandoline/Variable" 131) (H22 : Jvm.Lit.constHeld Z "com/example/mandoline/mandoline/VariableFunctionPinLaw" 22) (hcw : Jvm.Lit.compactW.before a0 Z = true) (Old0 : OldL Z n0 h0) :
    MetFree l x (head1 (Jvm.Cond.code x code maxLocals ret :: ws) room_1) (fun a U => a = #[(.int nbits), (.int fbits), (.int dbits), (.int mode)] ∧ Z.Warmed39 U.vm ∧ U.heap = h0 ∧ IB Z U.vm ([] : List String)) (fun _ _ _ _ _ => True) (fun _ U o U' => ∃ v L, o = .returned v ∧ Q_rm_law Z G1 G6 nbits fbits dbits mode h0 n0 v U'.heap U'.vm L ∧ ReturnedEndW U o U' L 80 2560) := by
 refine MetFree.of_bodySF (plainFor_of_name pn_com_example_mandoline_mandoline_VariableFunctionPinLaw) hisR ?_
 intro p e s m args below meth c s₁ Bd hml0 hP hK
 obtain ⟨rfl, hZ, hh, hI⟩ := hP
 have hx := Bd.exec
 have hby := Bd.bytes
 have hml : c.maxLocals = 14 := hml0
 have hown : s.vm.findClass "com/example/mandoline/mandoline/VariableFunctionPinLaw" = some m.cls := findClass_of_methodNamed Bd.named
 have X0 : Stand p l e room_1 (s.setVm s.vm) m #[(.int nbits), (.int fbits), (.int dbits), (.int mode)] below meth c s₁ [] 0 0 := Stand.of_body Bd
 have e0 : s₁.heap = h0 := by rw [← hh, Bd.state]; rfl
 have N0 := Fr.nil n0
 have K00 : Keep h0 h0 [] := Keep.refl _ _
 have hS0 : s.Since s.vm s.heap.size := (State.WarmedH.refl s).since _
 have hk0 : s.heap.size ≤ h0.size := by rw [hh]; exact Nat.le_refl _
 have hkeep : ∀ (b : Addr) (cl : Cell), Z.heap[b]? = some cl → s.heap[b]? = some cl := by rw [hh]; exact Old0.2.2
 show Rch p e below s₁ (entryFrame m #[(.int nbits), (.int fbits), (.int dbits), (.int mode)] maxLocals) (FinW s (Q_rm_law Z G1 G6 nbits fbits dbits mode h0 n0) 80 2560)
 refine Rch.cast (ef_rm_law m G1 G6 nbits fbits dbits mode) ?_
 have Z0f := Nat.le_refl h0.size
 have N0f := Fr.nil h0.size
 have OldF := Old0.up Z0
 show Rch p e below s₁ (mkF m 0 #[vI nbits, vI fbits, vI dbits, vI mode, U, U, U, U, U, U, U, U, U, U] []) _
 refine w_iloadN (pc' := 1) X0 hx hby at_0 rfl rfl ?_
 refine w_iconst (pc' := 2) (v := 1) X0 hx hby at_1 rfl rfl ?_
 refine w_iand (pc' := 3) X0 hx hby at_2 rfl ?_
 have Jlb : ∀ (lb : Int32),  Rch p e below s₁ (mkF m 11 #[vI nbits, vI fbits, vI dbits, vI mode, U, U, U, U, U, U, U, U, U, U] [(.int lb)]) (FinW s (Q_rm_law Z G1 G6 nbits fbits dbits mode h0 n0) 80 2560) := by
  intro lb
  refine w_istore (pc' := 13) (l' := #[vI nbits, vI fbits, vI dbits, vI mode, vI lb, U, U, U, U, U, U, U, U, U]) X0 hx hby at_11 rfl rfl ?_
  refine w_iloadN (pc' := 14) X0 hx hby at_13 rfl rfl ?_
  refine w_iconst (pc' := 15) (v := 1) X0 hx hby at_14 rfl rfl ?_
  refine w_iushr (pc' := 16) X0 hx hby at_15 rfl ?_
  refine w_iconst (pc' := 17) (v := 3) X0 hx hby at_16 rfl rfl ?_
  refine w_iand (pc' := 18) X0 hx hby at_17 rfl ?_
  obtain ⟨dep, hdep⟩ : ∃ z, z = ((XT.ushr mode (1 : Int32)) &&& (3 : Int32)) := ⟨_, rfl⟩
  rw [← hdep]
  show Rch p e below s₁ (mkF m 18 #[vI nbits, vI fbits, vI dbits, vI mode, vI lb, U, U, U, U, U, U, U, U, U] [(.int dep)]) _
  refine w_istore (pc' := 20) (l' := #[vI nbits, vI fbits, vI dbits, vI mode, vI lb, vI dep, U, U, U, U, U, U, U, U]) X0 hx hby at_18 rfl rfl ?_
  refine w_iloadN (pc' := 21) X0 hx hby at_20 rfl rfl ?_
  obtain ⟨_, _, ⟨T3065, L3065, k3065, n3065⟩, -, X3065, ⟨Lc3065, hQ3065, l3065, y3065, z3065⟩, st3065⟩ := Jvm.LawKit.callS X0 hx (y := y_29) hown (mvT hZ (wi hw 0 rfl)) (mvT hZ (wi hw 1 rfl)) (mvT hZ (wi hw 2 rfl)) (mvT hZ (wi hw 3 rfl)) (by decide) (backOf (W := 0) (rm_s2 l Z a0 hw [] G1 nbits h0 h0.size Z0f (O2) (P5) OldF) hZ (wi hw 3 rfl) (wi hw 2 rfl) (by decide) (by decide)) (g := (mkF m 21 #[vI nbits, vI fbits, vI dbits, vI mode, vI lb, vI dep, U, U, U, U, U, U, U, U] [(.int nbits)])) rfl (by rw [hml]; rfl) (argsL := [(.int nbits)]) (rest := []) (lenOf pd__I_Ljava_lang_String_ rfl) rfl (by show 2 * 0 + _ ≤ _; exact Nat.le_of_eq rfl) (hb hby at_21) (fun _ _ => ⟨rfl, e0, (by decide : 0 + 3 ≤ _), (by decide : 0 + 8 ≤ _)⟩)
  dsimp only [Pt.U, Pt.locs, Pt.cells, Pt.slots] at X3065 l3065 y3065 z3065 st3065 hQ3065
  subst l3065 y3065 z3065
  obtain ⟨ra_3065, t_3065, kt_3065, x0_3065, x1_3065, rfl, NQ3065, K3065, pq3065_0, pq3065_1, fq3065_0, fq3065_1, fq3065_2, fq3065_3, fq3065_4, fq3065_5, fq3065_6⟩ := hQ3065
  have N3066 := Fr.app N0f NQ3065
  have Old3069 := OldF.keep K3065 all0
  have Kp3070 : Keep h0 T3065.heap [] := K00.trans K3065 all0
  have Z3071 := Nat.le_trans Z0f K3065.1
  have hk3072 := Nat.le_trans hk0 K3065.1
  refine Rch.st (fun _ k => st3065 _ k) ?_
  show Rch p e below T3065 (mkF m 24 #[vI nbits, vI fbits, vI dbits, vI mode, vI lb, vI dep, U, U, U, U, U, U, U, U] [(.ref ra_3065)]) _
  refine w_astore (pc' := 26) (l' := #[vI nbits, vI fbits, vI dbits, vI mode, vI lb, vI dep, vR ra_3065, U, U, U, U, U, U, U]) X3065 hx hby at_24 rfl rfl rfl ?_
  refine w_iloadN (pc' := 27) X3065 hx hby at_26 rfl rfl ?_
  obtain ⟨_, _, ⟨T3073, L3073, k3073, n3073⟩, -, X3073, ⟨Lc3073, hQ3073, l3073, y3073, z3073⟩, st3073⟩ := Jvm.LawKit.callS X3065 hx (y := y_29) hown (mvT hZ (wi hw 0 rfl)) (mvT hZ (wi hw 1 rfl)) (mvT hZ (wi hw 2 rfl)) (mvT hZ (wi hw 3 rfl)) (by decide) (backOf (W := 0) (rm_s2 l Z a0 hw [] G1 fbits T3065.heap h0.size Z3071 (O2) (P5) Old3069) hZ (wi hw 3 rfl) (wi hw 2 rfl) (by decide) (by decide)) (g := (mkF m 27 #[vI nbits, vI fbits, vI dbits, vI mode, vI lb, vI dep, vR ra_3065, U, U, U, U, U, U, U] [(.int fbits)])) rfl (by rw [hml]; rfl) (argsL := [(.int fbits)]) (rest := []) (lenOf pd__I_Ljava_lang_String_ rfl) rfl (by show 2 * 0 + _ ≤ _; exact Nat.le_of_eq rfl) (hb hby at_27) (fun _ _ => ⟨rfl, (rfl : T3065.heap = T3065.heap), (by decide : 3 + 3 ≤ _), (by decide : 8 + 8 ≤ _)⟩)
  dsimp only [Pt.U, Pt.locs, Pt.cells, Pt.slots] at X3073 l3073 y3073 z3073 st3073 hQ3073
  subst l3073 y3073 z3073
  obtain ⟨ra_3073, t_3073, kt_3073, x0_3073, x1_3073, rfl, NQ3073, K3073, pq3073_0, pq3073_1, fq3073_0, fq3073_1, fq3073_2, fq3073_3, fq3073_4, fq3073_5, fq3073_6⟩ := hQ3073
  have N3074 := Fr.app N3066 NQ3073
  have f3081 := fq3065_0.keep K3073
  have f3082 := fq3065_1.keep K3073 nin0
  have f3083 := fq3065_2.keep K3073 nin0
  have f3084 := fq3065_3.keep K3073 nin0
  have f3085 := fq3065_4.keep K3073 nin0
  have f3086 := fq3065_5.keep K3073 nin0
  have f3087 := fq3065_6.keep K3073
  have Old3088 := Old3069.keep K3073 all0
  have Kp3089 : Keep h0 T3073.heap [] := Kp3070.trans K3073 all0
  have Z3090 := Nat.le_trans Z3071 K3073.1
  have hk3091 := Nat.le_trans hk3072 K3073.1
  refine Rch.st (fun _ k => st3073 _ k) ?_
  show Rch p e below T3073 (mkF m 30 #[vI nbits, vI fbits, vI dbits, vI mode, vI lb, vI dep, vR ra_3065, U, U, U, U, U, U, U] [(.ref ra_3073)]) _
  refine w_astore (pc' := 32) (l' := #[vI nbits, vI fbits, vI dbits, vI mode, vI lb, vI dep, vR ra_3065, vR ra_3073, U, U, U, U, U, U]) X3073 hx hby at_30 rfl rfl rfl ?_
  refine w_iloadN (pc' := 33) X3073 hx hby at_32 rfl rfl ?_
  refine w_iconst (pc' := 34) (v := 3) X3073 hx hby at_33 rfl rfl ?_
  refine w_iushr (pc' := 35) X3073 hx hby at_34 rfl ?_
  refine w_iconst (pc' := 36) (v := 1) X3073 hx hby at_35 rfl rfl ?_
  refine w_iand (pc' := 37) X3073 hx hby at_36 rfl ?_
  by_cases c3092 : ((XT.ushr mode (3 : Int32)) &&& (1 : Int32)) = 0
  ·skip
   refine w_ifYes (pc' := 45) X3073 hx hby at_37 (XT.i0_eq_t (c3092)) (by decide) ?_
   refine w_iloadN (pc' := 46) X3073 hx hby at_45 rfl rfl ?_
   refine w_bipush (pc' := 48) (v := 16) X3073 hx hby at_46 rfl rfl ?_
   refine w_iushr (pc' := 49) X3073 hx hby at_48 rfl ?_
   obtain ⟨_, _, ⟨T3093, L3093, k3093, n3093⟩, -, X3093, ⟨Lc3093, hQ3093, l3093, y3093, z3093⟩, st3093⟩ := Jvm.LawKit.callS X3073 hx (y := y_29) hown (mvT hZ (wi hw 0 rfl)) (mvT hZ (wi hw 1 rfl)) (mvT hZ (wi hw 2 rfl)) (mvT hZ (wi hw 3 rfl)) (by decide) (backOf (W := 0) (rm_s2 l Z a0 hw [] G1 (XT.ushr dbits (16 : Int32)) T3073.heap h0.size Z3090 (O2) (P5) Old3088) hZ (wi hw 3 rfl) (wi hw 2 rfl) (by decide) (by decide)) (g := (mkF m 49 #[vI nbits, vI fbits, vI dbits, vI mode, vI lb, vI dep, vR ra_3065, vR ra_3073, U, U, U, U, U, U] [(.int (XT.ushr dbits (16 : Int32)))])) rfl (by rw [hml]; rfl) (argsL := [(.int (XT.ushr dbits (16 : Int32)))]) (rest := []) (lenOf pd__I_Ljava_lang_String_ rfl) rfl (by show 2 * 0 + _ ≤ _; exact Nat.le_of_eq rfl) (hb hby at_49) (fun _ _ => ⟨rfl, (rfl : T3073.heap = T3073.heap), (by decide : 6 + 3 ≤ _), (by decide : 16 + 8 ≤ _)⟩)
   dsimp only [Pt.U, Pt.locs, Pt.cells, Pt.slots] at X3093 l3093 y3093 z3093 st3093 hQ3093
   subst l3093 y3093 z3093
   obtain ⟨ra_3093, t_3093, kt_3093, x0_3093, x1_3093, rfl, NQ3093, K3093, pq3093_0, pq3093_1, fq3093_0, fq3093_1, fq3093_2, fq3093_3, fq3093_4, fq3093_5, fq3093_6⟩ := hQ3093
   have N3094 := Fr.app N3074 NQ3093
   have f3105 := f3081.keep K3093
   have f3106 := f3082.keep K3093 nin0
   have f3107 := f3083.keep K3093 nin0
   have f3108 := f3084.keep K3093 nin0
   have f3109 := f3085.keep K3093 nin0
   have f3110 := f3086.keep K3093 nin0
   have f3111 := f3087.keep K3093
   have f3112 := fq3073_0.keep K3093
   have Old3119 := Old3088.keep K3093 all0
   have Kp3120 : Keep h0 T3093.heap [] := Kp3089.trans K3093 all0
   have Z3121 := Nat.le_trans Z3090 K3093.1
   have hk3122 := Nat.le_trans hk3091 K3093.1
   refine Rch.st (fun _ k => st3093 _ k) ?_
   show Rch p e below T3093 (mkF m 52 #[vI nbits, vI fbits, vI dbits, vI mode, vI lb, vI dep, vR ra_3065, vR ra_3073, U, U, U, U, U, U] [(.ref ra_3093)]) _
   refine w_astore (pc' := 54) (l' := #[vI nbits, vI fbits, vI dbits, vI mode, vI lb, vI dep, vR ra_3065, vR ra_3073, vR ra_3093, U, U, U, U, U]) X3093 hx hby at_52 rfl rfl rfl ?_
   refine w_iloadN (pc' := 55) X3093 hx hby at_54 rfl rfl ?_
   obtain ⟨_, _, ⟨T3123, L3123, k3123, n3123⟩, -, X3123, ⟨Lc3123, hQ3123, l3123, y3123, z3123⟩, st3123⟩ := Jvm.LawKit.callS X3093 hx (y := y_29) hown (mvT hZ (wi hw 0 rfl)) (mvT hZ (wi hw 1 rfl)) (mvT hZ (wi hw 2 rfl)) (mvT hZ (wi hw 3 rfl)) (by decide) (backOf (W := 0) (rm_s2 l Z a0 hw [] G1 dbits T3093.heap h0.size Z3121 (O2) (P5) Old3119) hZ (wi hw 3 rfl) (wi hw 2 rfl) (by decide) (by decide)) (g := (mkF m 55 #[vI nbits, vI fbits, vI dbits, vI mode, vI lb, vI dep, vR ra_3065, vR ra_3073, vR ra_3093, U, U, U, U, U] [(.int dbits)])) rfl (by rw [hml]; rfl) (argsL := [(.int dbits)]) (rest := []) (lenOf pd__I_Ljava_lang_String_ rfl) rfl (by show 2 * 0 + _ ≤ _; exact Nat.le_of_eq rfl) (hb hby at_55) (fun _ _ => ⟨rfl, (rfl : T3093.heap = T3093.heap), (by decide : 9 + 3 ≤ _), (by decide : 24 + 8 ≤ _)⟩)
   dsimp only [Pt.U, Pt.locs, Pt.cells, Pt.slots] at X3123 l3123 y3123 z3123 st3123 hQ3123
   subst l3123 y3123 z3123
   obtain ⟨ra_3123, t_3123, kt_3123, x0_3123, x1_3123, rfl, NQ3123, K3123, pq3123_0, pq3123_1, fq3123_0, fq3123_1, fq3123_2, fq3123_3, fq3123_4, fq3123_5, fq3123_6⟩ := hQ3123
   have N3124 := Fr.app N3094 NQ3123
   have ne3125 := nlt f3105.lt pq3123_0
   have ne3127 := nlt fq3093_0.lt pq3123_0
   have ne3130 := nlt fq3093_5.lt pq3123_0
   have ge3131 : h0.size ≤ ra_3123 := Nat.le_trans Z3121 pq3123_0
   have f3139 := f3105.keep K3123
   have f3140 := f3106.keep K3123 nin0
   have f3141 := f3107.keep K3123 nin0
   have f3142 := f3108.keep K3123 nin0
   have f3143 := f3109.keep K3123 nin0
   have f3144 := f3110.keep K3123 nin0
   have f3145 := f3111.keep K3123
   have f3146 := f3112.keep K3123
   have f3153 := fq3093_0.keep K3123
   have f3154 := fq3093_1.keep K3123 nin0
   have f3155 := fq3093_2.keep K3123 nin0
   have f3156 := fq3093_3.keep K3123 nin0
   have f3157 := fq3093_4.keep K3123 nin0
   have f3158 := fq3093_5.keep K3123 nin0
   have f3159 := fq3093_6.keep K3123
   have Old3160 := Old3119.keep K3123 all0
   have Kp3161 : Keep h0 T3123.heap [] := Kp3120.trans K3123 all0
   have Z3162 := Nat.le_trans Z3121 K3123.1
   have hk3163 := Nat.le_trans hk3122 K3123.1
   refine Rch.st (fun _ k => st3123 _ k) ?_
   show Rch p e below T3123 (mkF m 58 #[vI nbits, vI fbits, vI dbits, vI mode, vI lb, vI dep, vR ra_3065, vR ra_3073, vR ra_3093, U, U, U, U, U] [(.ref ra_3123)]) _
   refine w_astore (pc' := 60) (l' := #[vI nbits, vI fbits, vI dbits, vI mode, vI lb, vI dep, vR ra_3065, vR ra_3073, vR ra_3093, vR ra_3123, U, U, U, U]) X3123 hx hby at_58 rfl rfl rfl ?_
   refine w_iload (pc' := 62) X3123 hx hby at_60 rfl rfl ?_
   have J : ∀ (Tj : State) (lcj : List Loc) (hj : Heap) (va : Addr) (m1 : Addr) (fv : Value), (Stand p l e room_1 (s.setVm s.vm) m #[(.int nbits), (.int fbits), (.int dbits), (.int mode)] below meth c Tj lcj 14 50) → (Tj.heap = hj) → (Fr h0.size lcj) → (OldL Z h0.size hj) → (h0.size ≤ hj.size) → (Keep h0 hj []) → (s.heap.size ≤ hj.size) → (Exa Z hj ra_3065 "java/lang/String") → (Fld Z hj ra_3065 "java/lang/String" "coder" "B" (.int (0 : Int32))) → (Fld Z hj ra_3065 "java/lang/String" "value" "[B" (.ref t_3065)) → (Fld Z hj ra_3065 "java/lang/String" "hash" "I" (.int (0 : Int32))) → (Fld Z hj ra_3065 "java/lang/String" "hashIsZero" "Z" (.int (0 : Int32))) → (Arv Z hj t_3065 kt_3065 .byte (2 : Int32) [(.int x0_3065), (.int x1_3065)] (.int (0 : Int32))) → (Exa Z hj t_3065 "[B") → (Exa Z hj ra_3073 "java/lang/String") → (Exa Z hj ra_3093 "java/lang/String") → (Fld Z hj ra_3093 "java/lang/String" "coder" "B" (.int (0 : Int32))) → (Fld Z hj ra_3093 "java/lang/String" "value" "[B" (.ref t_3093)) → (Fld Z hj ra_3093 "java/lang/String" "hash" "I" (.int (0 : Int32))) → (Fld Z hj ra_3093 "java/lang/String" "hashIsZero" "Z" (.int (0 : Int32))) → (Arv Z hj t_3093 kt_3093 .byte (2 : Int32) [(.int x0_3093), (.int x1_3093)] (.int (0 : Int32))) → (Exa Z hj t_3093 "[B") → (Exa Z hj ra_3123 "java/lang/String") → (Fld Z hj ra_3123 "java/lang/String" "coder" "B" (.int (0 : Int32))) → (Fld Z hj ra_3123 "java/lang/String" "value" "[B" (.ref t_3123)) → (Fld Z hj ra_3123 "java/lang/String" "hash" "I" (.int (0 : Int32))) → (Fld Z hj ra_3123 "java/lang/String" "hashIsZero" "Z" (.int (0 : Int32))) → (Arv Z hj t_3123 kt_3123 .byte (2 : Int32) [(.int x0_3123), (.int x1_3123)] (.int (0 : Int32))) → (Exa Z hj t_3123 "[B") → (Exa Z hj va "com/example/mandoline/mandoline/Variable") → (Fld Z hj va "com/example/mandoline/mandoline/Variable" "fields" "Ljava/util/Map;" (.ref m1)) → (Fld Z hj va "com/example/mandoline/mandoline/Variable" "name" "Ljava/lang/String;" (.ref ra_3065)) → (Fld Z hj va "com/example/mandoline/mandoline/Variable" "function" "Ljava/lang/String;" fv) → (Fld Z hj va "com/example/mandoline/mandoline/Variable" "containing" "Lcom/example/mandoline/mandoline/Variable;" .null) → (Exa Z hj m1 "java/util/LinkedHashMap") → (Fld Z hj m1 "java/util/HashMap" "table" "[Ljava/util/HashMap$Node;" .null) → (Fld Z hj m1 "java/util/HashMap" "size" "I" (.int (0 : Int32))) → (Fld Z hj m1 "java/util/HashMap" "modCount" "I" (.int (0 : Int32))) → (Fld Z hj m1 "java/util/HashMap" "threshold" "I" (.int (0 : Int32))) → (Fld Z hj m1 "java/util/LinkedHashMap" "putMode" "I" (.int (0 : Int32))) → (Fld Z hj m1 "java/util/LinkedHashMap" "head" "Ljava/util/LinkedHashMap$Entry;" .null) → (Fld Z hj m1 "java/util/LinkedHashMap" "tail" "Ljava/util/LinkedHashMap$Entry;" .null) → (fv.isRef = true) → (fv = .null ∨ fv = .ref ra_3073) → (h0.size ≤ m1) →  Rch p e below Tj (mkF m 105 #[vI nbits, vI fbits, vI dbits, vI mode, vI lb, vI dep, vR ra_3065, vR ra_3073, vR ra_3093, vR ra_3123, vR va, .val fv, U, U] []) (FinW s (Q_rm_law Z G1 G6 nbits fbits dbits mode h0 n0) 80 2560) := by
    intro Tj lcj hj va m1 fv XJ eJ NJ OldJ ZJ KJ hkJ Jf0 Jf1 Jf2 Jf3 Jf4 Jf5 Jf6 Jf7 Jf8 Jf9 Jf10 Jf11 Jf12 Jf13 Jf14 Jf15 Jf16 Jf17 Jf18 Jf19 Jf20 Jf21 Jf22 Jf23 Jf24 Jf25 Jf26 Jf27 Jf28 Jf29 Jf30 Jf31 Jf32 Jf33 Jf34 hfv hcv gm1
    refine w_aload (pc' := 107) XJ hx hby at_105 rfl hfv rfl ?_
    refine w_aload (pc' := 109) XJ hx hby at_107 rfl rfl rfl ?_
    obtain ⟨cq3164, kq3164, q3164a, q3164b, q3164c⟩ := isOf hZ eJ Jf22
    obtain ⟨_, _, ⟨T3164, L3164, k3164, n3164⟩, -, X3164, ⟨Lc3164, hQ3164, l3164, y3164, z3164⟩, st3164⟩ := XJ.virtualBack hx (y := y_62) (z := y_62) hown (mvT hZ (wi hw 88 rfl)) (mvT hZ (wi hw 89 rfl)) (notFace_of_selects (args := #[]) (mvT hZ (wi hw 91 rfl))) (mvT hZ (wi hw 91 rfl)) (mvT hZ (wi hw 90 rfl)) (by decide) (backOf (W := 1) (rm_fn0 l Z a0 hw [] va fv hj h0.size ZJ Jf22 Jf26 Jf25 (hfv)) hZ (wi hw 92 rfl) (wi hw 36 rfl) (by decide) (by decide)) q3164a q3164c (g := (mkF m 109 #[vI nbits, vI fbits, vI dbits, vI mode, vI lb, vI dep, vR ra_3065, vR ra_3073, vR ra_3093, vR ra_3123, vR va, .val fv, U, U] [(.ref va), fv])) rfl (by rw [hml]; rfl) (Steps.refl _) (argsL := []) (rest := [fv]) (lenOf pd___Ljava_lang_String_ rfl) rfl (by show 2 * 0 + _ ≤ _; simp [XT.cat1 hfv]) (hb hby at_109) (fun _ _ => ⟨rfl, eJ, (by decide : 14 + 0 ≤ _), (by decide : 50 + 0 ≤ _)⟩)
    dsimp only [Pt.U, Pt.locs, Pt.cells, Pt.slots] at X3164 l3164 y3164 z3164 st3164 hQ3164
    subst l3164 y3164 z3164
    obtain ⟨rfl, NQ3164, K3164⟩ := hQ3164
    have N3165 := Fr.app NJ NQ3164
    refine Rch.st (fun _ k => st3164.trans k) ?_
    show Rch p e below T3164 (mkF m 112 #[vI nbits, vI fbits, vI dbits, vI mode, vI lb, vI dep, vR ra_3065, vR ra_3073, vR ra_3093, vR ra_3123, vR va, .val fv, U, U] [fv, fv]) _
    obtain ⟨_, _, ⟨T3166, L3166, k3166, n3166⟩, -, X3166, ⟨Lc3166, hQ3166, l3166, y3166, z3166⟩, st3166⟩ := Jvm.LawKit.callS X3164 hx (y := y_31) hown (mvT hZ (wi hw 93 rfl)) (mvT hZ (wi hw 94 rfl)) (mvT hZ (wi hw 2 rfl)) (mvT hZ (wi hw 95 rfl)) (by decide) (backOf (W := 0) (rm_sm l Z a0 hw [] fv ra_3073 hj h0.size ZJ (hfv) (hcv) Jf7) hZ (wi hw 95 rfl) (wi hw 2 rfl) (by decide) (by decide)) (g := (mkF m 112 #[vI nbits, vI fbits, vI dbits, vI mode, vI lb, vI dep, vR ra_3065, vR ra_3073, vR ra_3093, vR ra_3123, vR va, .val fv, U, U] [fv, fv])) rfl (by rw [hml]; rfl) (argsL := [fv, fv]) (rest := []) (lenOf pd__Ljava_lang_String_Ljava_lang_String__Z rfl) rfl (by show 2 * 0 + _ ≤ _; exact Nat.le_of_eq rfl) (hb hby at_112) (fun _ _ => ⟨rfl, K3164, (by decide : 14 + 0 ≤ _), (by decide : 50 + 0 ≤ _)⟩)
    dsimp only [Pt.U, Pt.locs, Pt.cells, Pt.slots] at X3166 l3166 y3166 z3166 st3166 hQ3166
    subst l3166 y3166 z3166
    obtain ⟨rfl, NQ3166, K3166⟩ := hQ3166
    have N3167 := Fr.app N3165 NQ3166
    refine Rch.st (fun _ k => st3166 _ k) ?_
    show Rch p e below T3166 (mkF m 115 #[vI nbits, vI fbits, vI dbits, vI mode, vI lb, vI dep, vR ra_3065, vR ra_3073, vR ra_3093, vR ra_3123, vR va, .val fv, U, U] [(.int 1)]) _
    refine w_ifYes (pc' := 120) X3166 hx hby at_115 (XT.i0_ne_t (by decide)) (by decide) ?_
    refine w_iload (pc' := 122) X3166 hx hby at_120 rfl rfl ?_
    by_cases c3168 : dep = 0
    ·skip
     refine w_ifNo (pc' := 125) X3166 hx hby at_122 (XT.i0_ne_f (c3168)) rfl ?_
     refine w_iconst (pc' := 126) (v := 1) X3166 hx hby at_125 rfl rfl ?_
     exact Rch.retVW X3166 hx hS0 (by rw [K3166]; exact hkJ) Bd.returns rfl (Or.inl ⟨rfl, by simp, _, rfl⟩) (hb hby at_126) (by rw [K3166]; exact ⟨rfl, (own_Fr Z0 N3167), KJ, own_ib_mono (own_ib (s := s.setVm s.vm) hI X3166.warmed) (by decide)⟩) (by decide) (by decide)
    ·skip
     refine w_ifYes (pc' := 127) X3166 hx hby at_122 (XT.i0_ne_t (c3168)) (by decide) ?_
     refine w_aload (pc' := 129) X3166 hx hby at_127 rfl rfl rfl ?_
     obtain ⟨T3169, h3169, X3169, e3169, E3169, A3169, D3169, -, st3169⟩ := newO X3166 hx hZ hown (wi hw 107 rfl) (wi hw 108 rfl) (wi hw 109 rfl) K3166 (g := (mkF m 129 #[vI nbits, vI fbits, vI dbits, vI mode, vI lb, vI dep, vR ra_3065, vR ra_3073, vR ra_3093, vR ra_3123, vR va, .val fv, U, U] [(.ref va)])) rfl (hb hby at_129) (by decide) (by decide)
     obtain ⟨a3169, g3169⟩ : ∃ z, z = hj.size := ⟨_, rfl⟩
     rw [← g3169] at A3169 D3169 st3169
     have ne3170 : m1 ≠ a3169 := by rw [g3169]; exact Nat.ne_of_lt Jf27.lt
     have ne3171 : ra_3065 ≠ a3169 := by rw [g3169]; exact Nat.ne_of_lt Jf0.lt
     have ne3173 : ra_3093 ≠ a3169 := by rw [g3169]; exact Nat.ne_of_lt Jf8.lt
     have ne3174 : ra_3123 ≠ a3169 := by rw [g3169]; exact Nat.ne_of_lt Jf15.lt
     have ne3175 : t_3065 ≠ a3169 := by rw [g3169]; exact Nat.ne_of_lt Jf5.lt
     have ne3176 : t_3093 ≠ a3169 := by rw [g3169]; exact Nat.ne_of_lt Jf13.lt
     have ne3177 : t_3123 ≠ a3169 := by rw [g3169]; exact Nat.ne_of_lt Jf20.lt
     have ne3178 : va ≠ a3169 := by rw [g3169]; exact Nat.ne_of_lt Jf22.lt
     have ge3179 : h0.size ≤ a3169 := Nat.le_trans ZJ (Nat.le_of_eq g3169.symm)
     have hk3181 := Nat.le_trans hkJ E3169.1
     have f3182 := Jf0.ext E3169
     have f3183 := Jf1.ext E3169
     have f3184 := Jf2.ext E3169
     have f3187 := Jf5.ext E3169
     have f3189 := Jf7.ext E3169
     have f3190 := Jf8.ext E3169
     have f3191 := Jf9.ext E3169
     have f3192 := Jf10.ext E3169
     have f3195 := Jf13.ext E3169
     have f3196 := Jf14.ext E3169
     have f3197 := Jf15.ext E3169
     have f3198 := Jf16.ext E3169
     have f3199 := Jf17.ext E3169
     have f3200 := Jf18.ext E3169
     have f3201 := Jf19.ext E3169
     have f3202 := Jf20.ext E3169
     have f3203 := Jf21.ext E3169
     have f3204 := Jf22.ext E3169
     have f3205 := Jf23.ext E3169
     have f3206 := Jf24.ext E3169
     have f3207 := Jf25.ext E3169
     have f3208 := Jf26.ext E3169
     have f3209 := Jf27.ext E3169
     have f3210 := Jf28.ext E3169
     have f3211 := Jf29.ext E3169
     have f3212 := Jf30.ext E3169
     have f3213 := Jf31.ext E3169
     have f3214 := Jf32.ext E3169
     have f3215 := Jf33.ext E3169
     have f3216 := Jf34.ext E3169
     have Old3217 := OldJ.ext E3169
     have Z3218 := Nat.le_trans ZJ E3169.1
     have Kp3219 : Keep h0 h3169 [] := KJ.ext E3169
     have f3220 : Fld Z h3169 a3169 "com/example/mandoline/mandoline/Place$Field" "key" "Ljava/lang/String;" .null := D3169 (Or.inr (wi hw 120 rfl)) (ty := (.object "java/lang/String")) (by decide)
     have f3221 : Fld Z h3169 a3169 "com/example/mandoline/mandoline/Place$Field" "name" "Ljava/lang/String;" .null := D3169 (Or.inr (wi hw 122 rfl)) (ty := (.object "java/lang/String")) (by decide)
     refine Rch.st (fun _ k => st3169 _ k) ?_
     show Rch p e below T3169 (mkF m 132 #[vI nbits, vI fbits, vI dbits, vI mode, vI lb, vI dep, vR ra_3065, vR ra_3073, vR ra_3093, vR ra_3123, vR va, .val fv, U, U] [(.ref a3169), (.ref va)]) _
     refine w_dup (pc' := 133) X3169 hx hby at_132 rfl rfl ?_
     refine w_aload (pc' := 135) X3169 hx hby at_133 rfl rfl rfl ?_
     refine w_aload (pc' := 137) X3169 hx hby at_135 rfl rfl rfl ?_
     obtain ⟨_, _, ⟨T3222, L3222, k3222, n3222⟩, -, X3222, ⟨Lc3222, hQ3222, l3222, y3222, z3222⟩, st3222⟩ := X3169.specialBack hx (y := y_38) rfl hown (mvT hZ (wi hw 110 rfl)) (mvT hZ (wi hw 111 rfl)) (mvT hZ (wi hw 112 rfl)) (by decide) (backOf (W := 2) (rm_fd l Z a0 hw [] a3169 ra_3123 ra_3093 h3169 h0.size Z3218 A3169 f3220 f3221 (ge3179)) hZ (wi hw 112 rfl) (wi hw 109 rfl) (by decide) (by decide)) (g := (mkF m 137 #[vI nbits, vI fbits, vI dbits, vI mode, vI lb, vI dep, vR ra_3065, vR ra_3073, vR ra_3093, vR ra_3123, vR va, .val fv, U, U] [(.ref ra_3093), (.ref ra_3123), (.ref a3169), (.ref a3169), (.ref va)])) rfl (by rw [hml]; rfl) (Steps.refl _) (a := a3169) (argsL := [(.ref ra_3123), (.ref ra_3093)]) (rest := [(.ref a3169), (.ref va)]) (lenOf pd__Ljava_lang_String_Ljava_lang_String__V rfl) rfl (by show 2 * 0 + _ ≤ _; exact Nat.le_of_eq rfl) (hb hby at_137) (fun _ _ => ⟨rfl, e3169, (by decide : 15 + 0 ≤ _), (by decide : 52 + 0 ≤ _)⟩)
     dsimp only [Pt.U, Pt.locs, Pt.cells, Pt.slots] at X3222 l3222 y3222 z3222 st3222 hQ3222
     subst l3222 y3222 z3222
     obtain ⟨rfl, NQ3222, K3222, fq3222_0, fq3222_1⟩ := hQ3222
     have N3223 := Fr.app N3167 NQ3222
     have f3224 := f3182.keep K3222
     have f3225 := f3183.keep K3222 (ninS ne3171 nin0)
     have f3226 := f3184.keep K3222 (ninS ne3171 nin0)
     have f3229 := f3187.keep K3222 (ninS ne3175 nin0)
     have f3231 := f3189.keep K3222
     have f3232 := f3190.keep K3222
     have f3233 := f3191.keep K3222 (ninS ne3173 nin0)
     have f3234 := f3192.keep K3222 (ninS ne3173 nin0)
     have f3237 := f3195.keep K3222 (ninS ne3176 nin0)
     have f3238 := f3196.keep K3222
     have f3239 := f3197.keep K3222
     have f3240 := f3198.keep K3222 (ninS ne3174 nin0)
     have f3241 := f3199.keep K3222 (ninS ne3174 nin0)
     have f3242 := f3200.keep K3222 (ninS ne3174 nin0)
     have f3243 := f3201.keep K3222 (ninS ne3174 nin0)
     have f3244 := f3202.keep K3222 (ninS ne3177 nin0)
     have f3245 := f3203.keep K3222
     have f3246 := f3204.keep K3222
     have f3247 := f3205.keep K3222 (ninS ne3178 nin0)
     have f3248 := f3206.keep K3222 (ninS ne3178 nin0)
     have f3249 := f3207.keep K3222 (ninS ne3178 nin0)
     have f3250 := f3208.keep K3222 (ninS ne3178 nin0)
     have f3251 := f3209.keep K3222
     have f3252 := f3210.keep K3222 (ninS ne3170 nin0)
     have f3253 := f3211.keep K3222 (ninS ne3170 nin0)
     have f3254 := f3212.keep K3222 (ninS ne3170 nin0)
     have f3255 := f3213.keep K3222 (ninS ne3170 nin0)
     have f3256 := f3214.keep K3222 (ninS ne3170 nin0)
     have f3257 := f3215.keep K3222 (ninS ne3170 nin0)
     have f3258 := f3216.keep K3222 (ninS ne3170 nin0)
     have f3259 := A3169.keep K3222
     have Old3260 := Old3217.keep K3222 (allS ge3179 all0)
     have Kp3261 : Keep h0 T3222.heap [] := Kp3219.trans K3222 (allS (Or.inr (Nat.le_trans KJ.1 (Nat.le_of_eq g3169.symm))) all0)
     have Z3262 := Nat.le_trans Z3218 K3222.1
     have hk3263 := Nat.le_trans hk3181 K3222.1
     refine Rch.st (fun _ k => st3222.trans k) ?_
     show Rch p e below T3222 (mkF m 140 #[vI nbits, vI fbits, vI dbits, vI mode, vI lb, vI dep, vR ra_3065, vR ra_3073, vR ra_3093, vR ra_3123, vR va, .val fv, U, U] [(.ref a3169), (.ref va)]) _
     obtain ⟨cq3264, kq3264, q3264a, q3264b, q3264c⟩ := isOf hZ (rfl : T3222.heap = T3222.heap) f3246
     obtain ⟨_, _, ⟨T3264, L3264, k3264, n3264⟩, -, X3264, hSx3264, hgx3264, ⟨Lc3264, hQ3264, l3264, y3264, z3264⟩, st3264⟩ := X3222.virtualBackS hx (y := y_58) (z := y_58) hown (mvT hZ (wi hw 123 rfl)) (mvT hZ (wi hw 124 rfl)) (notFace_of_selects (args := #[]) (mvT hZ (wi hw 126 rfl))) (mvT hZ (wi hw 126 rfl)) (mvT hZ (wi hw 125 rfl)) (by decide) (backOfV (PV := fun vm => IB Z vm ([] : List String)) (W := 0) (rm_af_n1 l Z a0 hw [] G1 G6 va ra_3065 a3169 ra_3093 t_3093 kt_3093 ([(.int x0_3093), (.int x1_3093)]) (.int 0) t_3065 kt_3065 ([(.int x0_3065), (.int x1_3065)]) (.int 0) ra_3123 t_3123 kt_3123 x0_3123 x1_3123 0 0 m1 T3222.heap h0.size Z3262 (O2) (P5) (O6) f3246 f3248 f3259 fq3222_1 f3232 f3233 f3234 f3237 f3224 f3225 f3226 f3229 (H131) (hcw) f3247 fq3222_0 f3239 f3240 f3241 f3242 f3243 f3244 f3245 f3251 f3252 f3253 f3254 f3255 f3256 f3257 f3258 (gm1) (ge3131) (ne3127) (ne3125) Old3260) hZ (fun vm hW => own_ib (s := s.setVm s.vm) hI hW) (wi hw 127 rfl) (wi hw 36 rfl) (by decide) (by decide)) q3264a q3264c (g := (mkF m 140 #[vI nbits, vI fbits, vI dbits, vI mode, vI lb, vI dep, vR ra_3065, vR ra_3073, vR ra_3093, vR ra_3123, vR va, .val fv, U, U] [(.ref a3169), (.ref va)])) rfl (by rw [hml]; rfl) (Steps.refl _) (argsL := [(.ref a3169)]) (rest := []) (lenOf pd__Lcom_example_mandoline_mandoline_Place_Field__Lcom_example_mandoline_mandoline_Variable_ rfl) rfl (by show 2 * 0 + _ ≤ _; exact Nat.le_of_eq rfl) (hb hby at_140) (fun _ _ => ⟨rfl, (rfl : T3222.heap = T3222.heap), (by decide : 15 + 11 ≤ _), (by decide : 52 + 90 ≤ _)⟩)
     dsimp only [Pt.U, Pt.locs, Pt.cells, Pt.slots] at X3264 l3264 y3264 z3264 st3264 hQ3264 hSx3264 hgx3264
     subst l3264 y3264 z3264
     have hS3264 := foldS hS0 (by rw [(rfl : T3222.heap = T3222.heap)]; exact hk3263) hSx3264 hgx3264
     have hk3264 : T3264.heap.size ≤ T3264.heap.size := Nat.le_refl _
     have hZ3264 : Z.Warmed39 (s.setVm T3264.vm).vm := State.Warmed39.trans (t := s.setVm s.vm) hZ hSx3264.1
     have hown3264 : (s.setVm T3264.vm).vm.findClass "com/example/mandoline/mandoline/VariableFunctionPinLaw" = some m.cls := by rw [show (s.setVm T3264.vm).vm = T3264.vm from rfl, hSx3264.1.alike.findClass]; exact hown
     have X3264w : Stand p l e room_1 (s.setVm T3264.vm) m _ below meth c T3264 _ _ _ := X3264
     obtain ⟨nv_3264, m2_3264, ns_3264, ts_3264, kts_3264, tv_3264, sa_3264, sbb_3264, ksb_3264, x2_3264, y2_3264, rfl, NQ3264, K3264, pq3264_0, pq3264_1, pq3264_2, pq3264_3, fq3264_0, fq3264_1, fq3264_2, fq3264_3, fq3264_4, fq3264_5, fq3264_6, fq3264_7, fq3264_8, fq3264_9, fq3264_10, fq3264_11, fq3264_12, fq3264_13, fq3264_14, fq3264_15, fq3264_16, fq3264_17, fq3264_18, fq3264_19, fq3264_20, fq3264_21, fq3264_22, fq3264_23, IQ3264, LQ3264_0⟩ := hQ3264
     have N3265 := Fr.app N3223 NQ3264
     have ne3271 := nlt f3239.lt pq3264_0
     have ne3286 := nlt f3246.lt pq3264_1
     have ge3287 : h0.size ≤ m2_3264 := Nat.le_trans Z3262 pq3264_1
     have ne3293 := nlt f3239.lt pq3264_2
     have f3319 := f3231.keep K3264
     have f3320 := f3232.keep K3264
     have ne3321 : ra_3093 ≠ m1 := ne_exa f3232 f3251 (by decide)
     have f3322 := f3233.keep K3264 (ninS ne3321 (ninS ne3127 nin0))
     have f3323 := f3234.keep K3264 (ninS ne3321 (ninS ne3127 nin0))
     have ne3326 : t_3093 ≠ m1 := ne_exa f3238 f3251 (by decide)
     have f3327 := f3237.keep K3264 (ninS ne3326 (ninS ne3130 nin0))
     have f3329 := f3239.keep K3264
     have ne3330 : t_3123 ≠ ra_3123 := ne_exa f3245 f3239 (by decide)
     have ne3331 : t_3123 ≠ m1 := ne_exa f3245 f3251 (by decide)
     have f3332 := f3244.keep K3264 (ninS ne3331 (ninS ne3330 nin0))
     have f3333 := f3245.keep K3264
     have f3334 := f3246.keep K3264
     have ne3335 : va ≠ ra_3123 := ne_exa f3246 f3239 (by decide)
     have ne3336 : va ≠ m1 := ne_exa f3246 f3251 (by decide)
     have f3339 := f3249.keep K3264 (ninS ne3336 (ninS ne3335 nin0))
     have f3340 := f3250.keep K3264 (ninS ne3336 (ninS ne3335 nin0))
     have Old3345 := Old3260.keep K3264 (allS gm1 (allS ge3131 all0))
     have Kp3346 : Keep h0 T3264.heap [] := Kp3261.trans K3264 (allS (Or.inr gm1) (allS (Or.inr (Nat.le_trans Kp3120.1 pq3123_0)) all0))
     have Z3347 := Nat.le_trans Z3262 K3264.1
     refine Rch.st (fun _ k => st3264.trans k) ?_
     show Rch p e below T3264 (mkF m 143 #[vI nbits, vI fbits, vI dbits, vI mode, vI lb, vI dep, vR ra_3065, vR ra_3073, vR ra_3093, vR ra_3123, vR va, .val fv, U, U] [(.ref nv_3264)]) _
     refine w_astore (pc' := 145) (l' := #[vI nbits, vI fbits, vI dbits, vI mode, vI lb, vI dep, vR ra_3065, vR ra_3073, vR ra_3093, vR ra_3123, vR va, .val fv, vR nv_3264, U]) X3264w hx hby at_143 rfl rfl rfl ?_
     refine w_aload (pc' := 147) X3264w hx hby at_145 rfl hfv rfl ?_
     refine w_aload (pc' := 149) X3264w hx hby at_147 rfl rfl rfl ?_
     obtain ⟨cq3348, kq3348, q3348a, q3348b, q3348c⟩ := isOf hZ3264 (rfl : T3264.heap = T3264.heap) fq3264_0
     obtain ⟨_, _, ⟨T3348, L3348, k3348, n3348⟩, -, X3348, ⟨Lc3348, hQ3348, l3348, y3348, z3348⟩, st3348⟩ := X3264w.virtualBack hx (y := y_62) (z := y_62) hown3264 (mvT hZ3264 (wi hw 88 rfl)) (mvT hZ3264 (wi hw 89 rfl)) (notFace_of_selects (args := #[]) (mvT hZ3264 (wi hw 91 rfl))) (mvT hZ3264 (wi hw 91 rfl)) (mvT hZ3264 (wi hw 90 rfl)) (by decide) (backOf (W := 1) (rm_fn1 l Z a0 hw [] nv_3264 va fv T3264.heap h0.size Z3347 fq3264_0 fq3264_3 f3334 f3340 f3339 (hfv)) hZ3264 (wi hw 92 rfl) (wi hw 36 rfl) (by decide) (by decide)) q3348a q3348c (g := (mkF m 149 #[vI nbits, vI fbits, vI dbits, vI mode, vI lb, vI dep, vR ra_3065, vR ra_3073, vR ra_3093, vR ra_3123, vR va, .val fv, vR nv_3264, U] [(.ref nv_3264), fv])) rfl (by rw [hml]; rfl) (Steps.refl _) (argsL := []) (rest := [fv]) (lenOf pd___Ljava_lang_String_ rfl) rfl (by show 2 * 0 + _ ≤ _; simp [XT.cat1 hfv]) (hb hby at_149) (fun _ _ => ⟨rfl, (rfl : T3264.heap = T3264.heap), (by decide : 26 + 0 ≤ _), (by decide : 142 + 0 ≤ _)⟩)
     dsimp only [Pt.U, Pt.locs, Pt.cells, Pt.slots] at X3348 l3348 y3348 z3348 st3348 hQ3348
     subst l3348 y3348 z3348
     obtain ⟨rfl, NQ3348, K3348⟩ := hQ3348
     have N3349 := Fr.app N3265 NQ3348
     refine Rch.st (fun _ k => st3348.trans k) ?_
     show Rch p e below T3348 (mkF m 152 #[vI nbits, vI fbits, vI dbits, vI mode, vI lb, vI dep, vR ra_3065, vR ra_3073, vR ra_3093, vR ra_3123, vR va, .val fv, vR nv_3264, U] [fv, fv]) _
     obtain ⟨_, _, ⟨T3350, L3350, k3350, n3350⟩, -, X3350, ⟨Lc3350, hQ3350, l3350, y3350, z3350⟩, st3350⟩ := Jvm.LawKit.callS X3348 hx (y := y_31) hown3264 (mvT hZ3264 (wi hw 93 rfl)) (mvT hZ3264 (wi hw 94 rfl)) (mvT hZ3264 (wi hw 2 rfl)) (mvT hZ3264 (wi hw 95 rfl)) (by decide) (backOf (W := 0) (rm_sm l Z a0 hw [] fv ra_3073 T3264.heap h0.size Z3347 (hfv) (hcv) f3319) hZ3264 (wi hw 95 rfl) (wi hw 2 rfl) (by decide) (by decide)) (g := (mkF m 152 #[vI nbits, vI fbits, vI dbits, vI mode, vI lb, vI dep, vR ra_3065, vR ra_3073, vR ra_3093, vR ra_3123, vR va, .val fv, vR nv_3264, U] [fv, fv])) rfl (by rw [hml]; rfl) (argsL := [fv, fv]) (rest := []) (lenOf pd__Ljava_lang_String_Ljava_lang_String__Z rfl) rfl (by show 2 * 0 + _ ≤ _; exact Nat.le_of_eq rfl) (hb hby at_152) (fun _ _ => ⟨rfl, K3348, (by decide : 26 + 0 ≤ _), (by decide : 142 + 0 ≤ _)⟩)
     dsimp only [Pt.U, Pt.locs, Pt.cells, Pt.slots] at X3350 l3350 y3350 z3350 st3350 hQ3350
     subst l3350 y3350 z3350
     obtain ⟨rfl, NQ3350, K3350⟩ := hQ3350
     have N3351 := Fr.app N3349 NQ3350
     refine Rch.st (fun _ k => st3350 _ k) ?_
     show Rch p e below T3350 (mkF m 155 #[vI nbits, vI fbits, vI dbits, vI mode, vI lb, vI dep, vR ra_3065, vR ra_3073, vR ra_3093, vR ra_3123, vR va, .val fv, vR nv_3264, U] [(.int 1)]) _
     refine w_ifYes (pc' := 160) X3350 hx hby at_155 (XT.i0_ne_t (by decide)) (by decide) ?_
     refine w_iload (pc' := 162) X3350 hx hby at_160 rfl rfl ?_
     refine w_iconst (pc' := 163) (v := 1) X3350 hx hby at_162 rfl rfl ?_
     by_cases c3352 : dep = (1 : Int32)
     ·skip
      refine w_icmpNo (pc' := 166) X3350 hx hby at_163 (XT.ii_ne_f (c3352)) rfl ?_
      refine w_aload (pc' := 168) X3350 hx hby at_166 rfl hfv rfl ?_
      refine w_aload (pc' := 170) X3350 hx hby at_168 rfl rfl rfl ?_
      obtain ⟨cq3353, kq3353, q3353a, q3353b, q3353c⟩ := isOf hZ3264 K3350 f3334
      obtain ⟨_, _, ⟨T3353, L3353, k3353, n3353⟩, -, X3353, ⟨Lc3353, hQ3353, l3353, y3353, z3353⟩, st3353⟩ := X3350.virtualBack hx (y := y_62) (z := y_62) hown3264 (mvT hZ3264 (wi hw 88 rfl)) (mvT hZ3264 (wi hw 89 rfl)) (notFace_of_selects (args := #[]) (mvT hZ3264 (wi hw 91 rfl))) (mvT hZ3264 (wi hw 91 rfl)) (mvT hZ3264 (wi hw 90 rfl)) (by decide) (backOf (W := 1) (rm_fn0 l Z a0 hw [] va fv T3264.heap h0.size Z3347 f3334 f3340 f3339 (hfv)) hZ3264 (wi hw 92 rfl) (wi hw 36 rfl) (by decide) (by decide)) q3353a q3353c (g := (mkF m 170 #[vI nbits, vI fbits, vI dbits, vI mode, vI lb, vI dep, vR ra_3065, vR ra_3073, vR ra_3093, vR ra_3123, vR va, .val fv, vR nv_3264, U] [(.ref va), fv])) rfl (by rw [hml]; rfl) (Steps.refl _) (argsL := []) (rest := [fv]) (lenOf pd___Ljava_lang_String_ rfl) rfl (by show 2 * 0 + _ ≤ _; simp [XT.cat1 hfv]) (hb hby at_170) (fun _ _ => ⟨rfl, K3350, (by decide : 26 + 0 ≤ _), (by decide : 142 + 0 ≤ _)⟩)
      dsimp only [Pt.U, Pt.locs, Pt.cells, Pt.slots] at X3353 l3353 y3353 z3353 st3353 hQ3353
      subst l3353 y3353 z3353
      obtain ⟨rfl, NQ3353, K3353⟩ := hQ3353
      have N3354 := Fr.app N3351 NQ3353
      refine Rch.st (fun _ k => st3353.trans k) ?_
      show Rch p e below T3353 (mkF m 173 #[vI nbits, vI fbits, vI dbits, vI mode, vI lb, vI dep, vR ra_3065, vR ra_3073, vR ra_3093, vR ra_3123, vR va, .val fv, vR nv_3264, U] [fv, fv]) _
      obtain ⟨_, _, ⟨T3355, L3355, k3355, n3355⟩, -, X3355, ⟨Lc3355, hQ3355, l3355, y3355, z3355⟩, st3355⟩ := Jvm.LawKit.callS X3353 hx (y := y_31) hown3264 (mvT hZ3264 (wi hw 93 rfl)) (mvT hZ3264 (wi hw 94 rfl)) (mvT hZ3264 (wi hw 2 rfl)) (mvT hZ3264 (wi hw 95 rfl)) (by decide) (backOf (W := 0) (rm_sm l Z a0 hw [] fv ra_3073 T3264.heap h0.size Z3347 (hfv) (hcv) f3319) hZ3264 (wi hw 95 rfl) (wi hw 2 rfl) (by decide) (by decide)) (g := (mkF m 173 #[vI nbits, vI fbits, vI dbits, vI mode, vI lb, vI dep, vR ra_3065, vR ra_3073, vR ra_3093, vR ra_3123, vR va, .val fv, vR nv_3264, U] [fv, fv])) rfl (by rw [hml]; rfl) (argsL := [fv, fv]) (rest := []) (lenOf pd__Ljava_lang_String_Ljava_lang_String__Z rfl) rfl (by show 2 * 0 + _ ≤ _; exact Nat.le_of_eq rfl) (hb hby at_173) (fun _ _ => ⟨rfl, K3353, (by decide : 26 + 0 ≤ _), (by decide : 142 + 0 ≤ _)⟩)
      dsimp only [Pt.U, Pt.locs, Pt.cells, Pt.slots] at X3355 l3355 y3355 z3355 st3355 hQ3355
      subst l3355 y3355 z3355
      obtain ⟨rfl, NQ3355, K3355⟩ := hQ3355
      have N3356 := Fr.app N3354 NQ3355
      refine Rch.st (fun _ k => st3355 _ k) ?_
      show Rch p e below T3355 (mkF m 176 #[vI nbits, vI fbits, vI dbits, vI mode, vI lb, vI dep, vR ra_3065, vR ra_3073, vR ra_3093, vR ra_3123, vR va, .val fv, vR nv_3264, U] [(.int 1)]) _
      exact Rch.retVW X3355 hx hS3264 (by rw [K3355]; exact hk3264) Bd.returns rfl (Or.inl ⟨rfl, by simp, _, rfl⟩) (hb hby at_176) (by rw [K3355]; exact ⟨rfl, (own_Fr Z0 N3356), Kp3346, own_ib_mono (own_ib (s := s.setVm T3264.vm) IQ3264 X3355.warmed) (by decide)⟩) (by decide) (by decide)
     ·skip
      refine w_icmpYes (pc' := 177) X3350 hx hby at_163 (XT.ii_ne_t (c3352)) (by decide) ?_
      refine w_aload (pc' := 179) X3350 hx hby at_177 rfl rfl rfl ?_
      obtain ⟨T3357, h3357, X3357, e3357, E3357, A3357, D3357, -, st3357⟩ := newO X3350 hx hZ3264 hown3264 (wi hw 107 rfl) (wi hw 108 rfl) (wi hw 109 rfl) K3350 (g := (mkF m 179 #[vI nbits, vI fbits, vI dbits, vI mode, vI lb, vI dep, vR ra_3065, vR ra_3073, vR ra_3093, vR ra_3123, vR va, .val fv, vR nv_3264, U] [(.ref nv_3264)])) rfl (hb hby at_179) (by decide) (by decide)
      obtain ⟨a3357, g3357⟩ : ∃ z, z = T3264.heap.size := ⟨_, rfl⟩
      rw [← g3357] at A3357 D3357 st3357
      have ne3358 : m2_3264 ≠ a3357 := by rw [g3357]; exact Nat.ne_of_lt fq3264_4.lt
      have ne3359 : ns_3264 ≠ a3357 := by rw [g3357]; exact Nat.ne_of_lt fq3264_12.lt
      have ne3360 : nv_3264 ≠ a3357 := by rw [g3357]; exact Nat.ne_of_lt fq3264_0.lt
      have ne3363 : ra_3093 ≠ a3357 := by rw [g3357]; exact Nat.ne_of_lt f3320.lt
      have ne3364 : ra_3123 ≠ a3357 := by rw [g3357]; exact Nat.ne_of_lt f3329.lt
      have ne3365 : sa_3264 ≠ a3357 := by rw [g3357]; exact Nat.ne_of_lt fq3264_16.lt
      have ne3366 : sbb_3264 ≠ a3357 := by rw [g3357]; exact Nat.ne_of_lt fq3264_19.lt
      have ne3368 : t_3093 ≠ a3357 := by rw [g3357]; exact Nat.ne_of_lt f3327.lt
      have ne3369 : t_3123 ≠ a3357 := by rw [g3357]; exact Nat.ne_of_lt f3332.lt
      have ne3370 : ts_3264 ≠ a3357 := by rw [g3357]; exact Nat.ne_of_lt fq3264_15.lt
      have ne3371 : va ≠ a3357 := by rw [g3357]; exact Nat.ne_of_lt f3334.lt
      have ge3372 : h0.size ≤ a3357 := Nat.le_trans Z3347 (Nat.le_of_eq g3357.symm)
      have hk3374 := Nat.le_trans hk3264 E3357.1
      have f3382 := f3319.ext E3357
      have f3383 := f3320.ext E3357
      have f3384 := f3322.ext E3357
      have f3385 := f3323.ext E3357
      have f3388 := f3327.ext E3357
      have f3390 := f3329.ext E3357
      have f3391 := f3332.ext E3357
      have f3392 := f3333.ext E3357
      have f3393 := f3334.ext E3357
      have f3396 := f3339.ext E3357
      have f3397 := f3340.ext E3357
      have f3398 := fq3264_0.ext E3357
      have f3399 := fq3264_1.ext E3357
      have f3400 := fq3264_2.ext E3357
      have f3401 := fq3264_3.ext E3357
      have f3402 := fq3264_4.ext E3357
      have f3403 := fq3264_5.ext E3357
      have f3404 := fq3264_6.ext E3357
      have f3405 := fq3264_7.ext E3357
      have f3406 := fq3264_8.ext E3357
      have f3407 := fq3264_9.ext E3357
      have f3408 := fq3264_10.ext E3357
      have f3409 := fq3264_11.ext E3357
      have f3410 := fq3264_12.ext E3357
      have f3411 := fq3264_13.ext E3357
      have f3412 := fq3264_14.ext E3357
      have f3413 := fq3264_15.ext E3357
      have f3414 := fq3264_16.ext E3357
      have f3415 := fq3264_17.ext E3357
      have f3416 := fq3264_18.ext E3357
      have f3417 := fq3264_19.ext E3357
      have f3418 := fq3264_20.ext E3357
      have f3419 := fq3264_21.ext E3357
      have f3420 := fq3264_22.ext E3357
      have f3421 := fq3264_23.ext E3357
      have Old3422 := Old3345.ext E3357
      have Z3423 := Nat.le_trans Z3347 E3357.1
      have Kp3424 : Keep h0 h3357 [] := Kp3346.ext E3357
      have f3425 : Fld Z h3357 a3357 "com/example/mandoline/mandoline/Place$Field" "key" "Ljava/lang/String;" .null := D3357 (Or.inr (wi hw 120 rfl)) (ty := (.object "java/lang/String")) (by decide)
      have f3426 : Fld Z h3357 a3357 "com/example/mandoline/mandoline/Place$Field" "name" "Ljava/lang/String;" .null := D3357 (Or.inr (wi hw 122 rfl)) (ty := (.object "java/lang/String")) (by decide)
      refine Rch.st (fun _ k => st3357 _ k) ?_
      show Rch p e below T3357 (mkF m 182 #[vI nbits, vI fbits, vI dbits, vI mode, vI lb, vI dep, vR ra_3065, vR ra_3073, vR ra_3093, vR ra_3123, vR va, .val fv, vR nv_3264, U] [(.ref a3357), (.ref nv_3264)]) _
      refine w_dup (pc' := 183) X3357 hx hby at_182 rfl rfl ?_
      refine w_aload (pc' := 185) X3357 hx hby at_183 rfl rfl rfl ?_
      refine w_aload (pc' := 187) X3357 hx hby at_185 rfl rfl rfl ?_
      obtain ⟨_, _, ⟨T3427, L3427, k3427, n3427⟩, -, X3427, ⟨Lc3427, hQ3427, l3427, y3427, z3427⟩, st3427⟩ := X3357.specialBack hx (y := y_38) rfl hown3264 (mvT hZ3264 (wi hw 110 rfl)) (mvT hZ3264 (wi hw 111 rfl)) (mvT hZ3264 (wi hw 112 rfl)) (by decide) (backOf (W := 2) (rm_fd l Z a0 hw [] a3357 ra_3123 ra_3093 h3357 h0.size Z3423 A3357 f3425 f3426 (ge3372)) hZ3264 (wi hw 112 rfl) (wi hw 109 rfl) (by decide) (by decide)) (g := (mkF m 187 #[vI nbits, vI fbits, vI dbits, vI mode, vI lb, vI dep, vR ra_3065, vR ra_3073, vR ra_3093, vR ra_3123, vR va, .val fv, vR nv_3264, U] [(.ref ra_3093), (.ref ra_3123), (.ref a3357), (.ref a3357), (.ref nv_3264)])) rfl (by rw [hml]; rfl) (Steps.refl _) (a := a3357) (argsL := [(.ref ra_3123), (.ref ra_3093)]) (rest := [(.ref a3357), (.ref nv_3264)]) (lenOf pd__Ljava_lang_String_Ljava_lang_String__V rfl) rfl (by show 2 * 0 + _ ≤ _; exact Nat.le_of_eq rfl) (hb hby at_187) (fun _ _ => ⟨rfl, e3357, (by decide : 27 + 0 ≤ _), (by decide : 144 + 0 ≤ _)⟩)
      dsimp only [Pt.U, Pt.locs, Pt.cells, Pt.slots] at X3427 l3427 y3427 z3427 st3427 hQ3427
      subst l3427 y3427 z3427
      obtain ⟨rfl, NQ3427, K3427, fq3427_0, fq3427_1⟩ := hQ3427
      have N3428 := Fr.app N3351 NQ3427
      have f3436 := f3382.keep K3427
      have f3437 := f3383.keep K3427
      have f3438 := f3384.keep K3427 (ninS ne3363 nin0)
      have f3439 := f3385.keep K3427 (ninS ne3363 nin0)
      have f3442 := f3388.keep K3427 (ninS ne3368 nin0)
      have f3444 := f3390.keep K3427
      have f3445 := f3391.keep K3427 (ninS ne3369 nin0)
      have f3446 := f3392.keep K3427
      have f3447 := f3393.keep K3427
      have f3450 := f3396.keep K3427 (ninS ne3371 nin0)
      have f3451 := f3397.keep K3427 (ninS ne3371 nin0)
      have f3452 := f3398.keep K3427
      have f3453 := f3399.keep K3427 (ninS ne3360 nin0)
      have f3454 := f3400.keep K3427 (ninS ne3360 nin0)
      have f3455 := f3401.keep K3427 (ninS ne3360 nin0)
      have f3456 := f3402.keep K3427
      have f3457 := f3403.keep K3427 (ninS ne3358 nin0)
      have f3458 := f3404.keep K3427 (ninS ne3358 nin0)
      have f3459 := f3405.keep K3427 (ninS ne3358 nin0)
      have f3460 := f3406.keep K3427 (ninS ne3358 nin0)
      have f3461 := f3407.keep K3427 (ninS ne3358 nin0)
      have f3462 := f3408.keep K3427 (ninS ne3358 nin0)
      have f3463 := f3409.keep K3427 (ninS ne3358 nin0)
      have f3464 := f3410.keep K3427
      have f3465 := f3411.keep K3427 (ninS ne3359 nin0)
      have f3466 := f3412.keep K3427 (ninS ne3359 nin0)
      have f3467 := f3413.keep K3427 (ninS ne3370 nin0)
      have f3468 := f3414.keep K3427
      have f3469 := f3415.keep K3427 (ninS ne3365 nin0)
      have f3470 := f3416.keep K3427 (ninS ne3365 nin0)
      have f3471 := f3417.keep K3427 (ninS ne3366 nin0)
      have f3472 := f3418.keep K3427 (ninS ne3364 nin0)
      have f3473 := f3419.keep K3427 (ninS ne3364 nin0)
      have f3474 := f3420.keep K3427 (ninS ne3364 nin0)
      have f3475 := f3421.keep K3427 (ninS ne3364 nin0)
      have f3476 := A3357.keep K3427
      have Old3477 := Old3422.keep K3427 (allS ge3372 all0)
      have Kp3478 : Keep h0 T3427.heap [] := Kp3424.trans K3427 (allS (Or.inr (Nat.le_trans Kp3346.1 (Nat.le_of_eq g3357.symm))) all0)
      have Z3479 := Nat.le_trans Z3423 K3427.1
      have hk3480 := Nat.le_trans hk3374 K3427.1
      refine Rch.st (fun _ k => st3427.trans k) ?_
      show Rch p e below T3427 (mkF m 190 #[vI nbits, vI fbits, vI dbits, vI mode, vI lb, vI dep, vR ra_3065, vR ra_3073, vR ra_3093, vR ra_3123, vR va, .val fv, vR nv_3264, U] [(.ref a3357), (.ref nv_3264)]) _
      obtain ⟨cq3481, kq3481, q3481a, q3481b, q3481c⟩ := isOf hZ3264 (rfl : T3427.heap = T3427.heap) f3452
      obtain ⟨_, _, ⟨T3481, L3481, k3481, n3481⟩, -, X3481, hSx3481, hgx3481, ⟨Lc3481, hQ3481, l3481, y3481, z3481⟩, st3481⟩ := X3427.virtualBackS hx (y := y_58) (z := y_58) hown3264 (mvT hZ3264 (wi hw 123 rfl)) (mvT hZ3264 (wi hw 124 rfl)) (notFace_of_selects (args := #[]) (mvT hZ3264 (wi hw 126 rfl))) (mvT hZ3264 (wi hw 126 rfl)) (mvT hZ3264 (wi hw 125 rfl)) (by decide) (backOfV (PV := fun vm => IB Z vm (["."] : List String) ∧ Lit (Z.setVm vm) "com/example/mandoline/mandoline/Variable" 131 sa_3264) (W := 0) (rm_af_n2 l Z a0 hw [] G1 G6 nv_3264 ns_3264 a3357 ra_3093 t_3093 kt_3093 ([(.int x0_3093), (.int x1_3093)]) (.int 0) ts_3264 kts_3264 tv_3264 (.int 0) sa_3264 sbb_3264 ksb_3264 ra_3123 t_3123 kt_3123 x0_3123 x1_3123 x2_3264 y2_3264 m2_3264 T3427.heap h0.size Z3479 (O2) (P5) (O6) f3452 f3454 f3476 fq3427_1 f3437 f3438 f3439 f3442 f3464 f3465 f3466 f3467 f3468 f3469 f3470 f3471 f3453 fq3427_0 f3444 f3472 f3473 f3474 f3475 f3445 f3446 f3456 f3457 f3458 f3459 f3460 f3461 f3462 f3463 (ge3287) (ge3131) (ne3127) ((Ne.symm ne3293)) Old3477) hZ3264 (fun vm hW => ⟨own_ib (s := s.setVm T3264.vm) IQ3264 hW, own_lit (s := s) (vm := T3264.vm) LQ3264_0 hW.wide⟩) (wi hw 127 rfl) (wi hw 36 rfl) (by decide) (by decide)) q3481a q3481c (g := (mkF m 190 #[vI nbits, vI fbits, vI dbits, vI mode, vI lb, vI dep, vR ra_3065, vR ra_3073, vR ra_3093, vR ra_3123, vR va, .val fv, vR nv_3264, U] [(.ref a3357), (.ref nv_3264)])) rfl (by rw [hml]; rfl) (Steps.refl _) (argsL := [(.ref a3357)]) (rest := []) (lenOf pd__Lcom_example_mandoline_mandoline_Place_Field__Lcom_example_mandoline_mandoline_Variable_ rfl) rfl (by show 2 * 0 + _ ≤ _; exact Nat.le_of_eq rfl) (hb hby at_190) (fun _ _ => ⟨rfl, (rfl : T3427.heap = T3427.heap), (by decide : 27 + 9 ≤ _), (by decide : 144 + 82 ≤ _)⟩)
      dsimp only [Pt.U, Pt.locs, Pt.cells, Pt.slots] at X3481 l3481 y3481 z3481 st3481 hQ3481 hSx3481 hgx3481
      subst l3481 y3481 z3481
      have hS3481 := foldS hS3264 (by rw [(rfl : T3427.heap = T3427.heap)]; exact hk3480) hSx3481 hgx3481
      have hk3481 : T3481.heap.size ≤ T3481.heap.size := Nat.le_refl _
      have hZ3481 : Z.Warmed39 (s.setVm T3481.vm).vm := State.Warmed39.trans (t := s.setVm T3264.vm) hZ3264 hSx3481.1
      have hown3481 : (s.setVm T3481.vm).vm.findClass "com/example/mandoline/mandoline/VariableFunctionPinLaw" = some m.cls := by rw [show (s.setVm T3481.vm).vm = T3481.vm from rfl, hSx3481.1.alike.findClass]; exact hown3264
      have X3481w : Stand p l e room_1 (s.setVm T3481.vm) m _ below meth c T3481 _ _ _ := X3481
      obtain ⟨nv_3481, m2_3481, ns_3481, ts_3481, kts_3481, tv_3481, x2_3481, y2_3481, rfl, NQ3481, K3481, pq3481_0, pq3481_1, pq3481_2, pq3481_3, fq3481_0, fq3481_1, fq3481_2, fq3481_3, fq3481_4, fq3481_5, fq3481_6, fq3481_7, fq3481_8, fq3481_9, fq3481_10, fq3481_11, fq3481_12, fq3481_13, fq3481_14, fq3481_15, fq3481_16, fq3481_17, fq3481_18, fq3481_19, IQ3481⟩ := hQ3481
      have N3482 := Fr.app N3428 NQ3481
      have f3554 := f3436.keep K3481
      have f3565 := f3447.keep K3481
      have f3568 := f3450.keep K3481 (ninS ne3286 (ninS ne3335 nin0))
      have f3569 := f3451.keep K3481 (ninS ne3286 (ninS ne3335 nin0))
      have f3570 := f3452.keep K3481
      have ne3571 : nv_3264 ≠ m2_3264 := ne_exa f3452 f3456 (by decide)
      have f3574 := f3455.keep K3481 (ninS ne3571 (ninS (Ne.symm ne3271) nin0))
      have Kp3595 : Keep h0 T3481.heap [] := Kp3478.trans K3481 (allS (Or.inr (Nat.le_trans Kp3261.1 pq3264_1)) (allS (Or.inr (Nat.le_trans Kp3120.1 pq3123_0)) all0))
      have Z3596 := Nat.le_trans Z3479 K3481.1
      refine Rch.st (fun _ k => st3481.trans k) ?_
      show Rch p e below T3481 (mkF m 193 #[vI nbits, vI fbits, vI dbits, vI mode, vI lb, vI dep, vR ra_3065, vR ra_3073, vR ra_3093, vR ra_3123, vR va, .val fv, vR nv_3264, U] [(.ref nv_3481)]) _
      refine w_astore (pc' := 195) (l' := #[vI nbits, vI fbits, vI dbits, vI mode, vI lb, vI dep, vR ra_3065, vR ra_3073, vR ra_3093, vR ra_3123, vR va, .val fv, vR nv_3264, vR nv_3481]) X3481w hx hby at_193 rfl rfl rfl ?_
      refine w_aload (pc' := 197) X3481w hx hby at_195 rfl hfv rfl ?_
      refine w_aload (pc' := 199) X3481w hx hby at_197 rfl rfl rfl ?_
      obtain ⟨cq3597, kq3597, q3597a, q3597b, q3597c⟩ := isOf hZ3481 (rfl : T3481.heap = T3481.heap) fq3481_0
      obtain ⟨_, _, ⟨T3597, L3597, k3597, n3597⟩, -, X3597, ⟨Lc3597, hQ3597, l3597, y3597, z3597⟩, st3597⟩ := X3481w.virtualBack hx (y := y_62) (z := y_62) hown3481 (mvT hZ3481 (wi hw 88 rfl)) (mvT hZ3481 (wi hw 89 rfl)) (notFace_of_selects (args := #[]) (mvT hZ3481 (wi hw 91 rfl))) (mvT hZ3481 (wi hw 91 rfl)) (mvT hZ3481 (wi hw 90 rfl)) (by decide) (backOf (W := 1) (rm_fn2 l Z a0 hw [] nv_3481 nv_3264 va fv T3481.heap h0.size Z3596 fq3481_0 fq3481_3 f3570 f3574 f3565 f3569 f3568 (hfv)) hZ3481 (wi hw 92 rfl) (wi hw 36 rfl) (by decide) (by decide)) q3597a q3597c (g := (mkF m 199 #[vI nbits, vI fbits, vI dbits, vI mode, vI lb, vI dep, vR ra_3065, vR ra_3073, vR ra_3093, vR ra_3123, vR va, .val fv, vR nv_3264, vR nv_3481] [(.ref nv_3481), fv])) rfl (by rw [hml]; rfl) (Steps.refl _) (argsL := []) (rest := [fv]) (lenOf pd___Ljava_lang_String_ rfl) rfl (by show 2 * 0 + _ ≤ _; simp [XT.cat1 hfv]) (hb hby at_199) (fun _ _ => ⟨rfl, (rfl : T3481.heap = T3481.heap), (by decide : 36 + 0 ≤ _), (by decide : 226 + 0 ≤ _)⟩)
      dsimp only [Pt.U, Pt.locs, Pt.cells, Pt.slots] at X3597 l3597 y3597 z3597 st3597 hQ3597
      subst l3597 y3597 z3597
      obtain ⟨rfl, NQ3597, K3597⟩ := hQ3597
      have N3598 := Fr.app N3482 NQ3597
      refine Rch.st (fun _ k => st3597.trans k) ?_
      show Rch p e below T3597 (mkF m 202 #[vI nbits, vI fbits, vI dbits, vI mode, vI lb, vI dep, vR ra_3065, vR ra_3073, vR ra_3093, vR ra_3123, vR va, .val fv, vR nv_3264, vR nv_3481] [fv, fv]) _
      obtain ⟨_, _, ⟨T3599, L3599, k3599, n3599⟩, -, X3599, ⟨Lc3599, hQ3599, l3599, y3599, z3599⟩, st3599⟩ := Jvm.LawKit.callS X3597 hx (y := y_31) hown3481 (mvT hZ3481 (wi hw 93 rfl)) (mvT hZ3481 (wi hw 94 rfl)) (mvT hZ3481 (wi hw 2 rfl)) (mvT hZ3481 (wi hw 95 rfl)) (by decide) (backOf (W := 0) (rm_sm l Z a0 hw [] fv ra_3073 T3481.heap h0.size Z3596 (hfv) (hcv) f3554) hZ3481 (wi hw 95 rfl) (wi hw 2 rfl) (by decide) (by decide)) (g := (mkF m 202 #[vI nbits, vI fbits, vI dbits, vI mode, vI lb, vI dep, vR ra_3065, vR ra_3073, vR ra_3093, vR ra_3123, vR va, .val fv, vR nv_3264, vR nv_3481] [fv, fv])) rfl (by rw [hml]; rfl) (argsL := [fv, fv]) (rest := []) (lenOf pd__Ljava_lang_String_Ljava_lang_String__Z rfl) rfl (by show 2 * 0 + _ ≤ _; exact Nat.le_of_eq rfl) (hb hby at_202) (fun _ _ => ⟨rfl, K3597, (by decide : 36 + 0 ≤ _), (by decide : 226 + 0 ≤ _)⟩)
      dsimp only [Pt.U, Pt.locs, Pt.cells, Pt.slots] at X3599 l3599 y3599 z3599 st3599 hQ3599
      subst l3599 y3599 z3599
      obtain ⟨rfl, NQ3599, K3599⟩ := hQ3599
      have N3600 := Fr.app N3598 NQ3599
      refine Rch.st (fun _ k => st3599 _ k) ?_
      show Rch p e below T3599 (mkF m 205 #[vI nbits, vI fbits, vI dbits, vI mode, vI lb, vI dep, vR ra_3065, vR ra_3073, vR ra_3093, vR ra_3123, vR va, .val fv, vR nv_3264, vR nv_3481] [(.int 1)]) _
      refine w_ifNo (pc' := 208) X3599 hx hby at_205 (XT.i0_eq_f (by decide)) rfl ?_
      refine w_aload (pc' := 210) X3599 hx hby at_208 rfl hfv rfl ?_
      refine w_aload (pc' := 212) X3599 hx hby at_210 rfl rfl rfl ?_
      obtain ⟨cq3601, kq3601, q3601a, q3601b, q3601c⟩ := isOf hZ3481 K3599 f3565
      obtain ⟨_, _, ⟨T3601, L3601, k3601, n3601⟩, -, X3601, ⟨Lc3601, hQ3601, l3601, y3601, z3601⟩, st3601⟩ := X3599.virtualBack hx (y := y_62) (z := y_62) hown3481 (mvT hZ3481 (wi hw 88 rfl)) (mvT hZ3481 (wi hw 89 rfl)) (notFace_of_selects (args := #[]) (mvT hZ3481 (wi hw 91 rfl))) (mvT hZ3481 (wi hw 91 rfl)) (mvT hZ3481 (wi hw 90 rfl)) (by decide) (backOf (W := 1) (rm_fn0 l Z a0 hw [] va fv T3481.heap h0.size Z3596 f3565 f3569 f3568 (hfv)) hZ3481 (wi hw 92 rfl) (wi hw 36 rfl) (by decide) (by decide)) q3601a q3601c (g := (mkF m 212 #[vI nbits, vI fbits, vI dbits, vI mode, vI lb, vI dep, vR ra_3065, vR ra_3073, vR ra_3093, vR ra_3123, vR va, .val fv, vR nv_3264, vR nv_3481] [(.ref va), fv])) rfl (by rw [hml]; rfl) (Steps.refl _) (argsL := []) (rest := [fv]) (lenOf pd___Ljava_lang_String_ rfl) rfl (by show 2 * 0 + _ ≤ _; simp [XT.cat1 hfv]) (hb hby at_212) (fun _ _ => ⟨rfl, K3599, (by decide : 36 + 0 ≤ _), (by decide : 226 + 0 ≤ _)⟩)
      dsimp only [Pt.U, Pt.locs, Pt.cells, Pt.slots] at X3601 l3601 y3601 z3601 st3601 hQ3601
      subst l3601 y3601 z3601
      obtain ⟨rfl, NQ3601, K3601⟩ := hQ3601
      have N3602 := Fr.app N3600 NQ3601
      refine Rch.st (fun _ k => st3601.trans k) ?_
      show Rch p e below T3601 (mkF m 215 #[vI nbits, vI fbits, vI dbits, vI mode, vI lb, vI dep, vR ra_3065, vR ra_3073, vR ra_3093, vR ra_3123, vR va, .val fv, vR nv_3264, vR nv_3481] [fv, fv]) _
      obtain ⟨_, _, ⟨T3603, L3603, k3603, n3603⟩, -, X3603, ⟨Lc3603, hQ3603, l3603, y3603, z3603⟩, st3603⟩ := Jvm.LawKit.callS X3601 hx (y := y_31) hown3481 (mvT hZ3481 (wi hw 93 rfl)) (mvT hZ3481 (wi hw 94 rfl)) (mvT hZ3481 (wi hw 2 rfl)) (mvT hZ3481 (wi hw 95 rfl)) (by decide) (backOf (W := 0) (rm_sm l Z a0 hw [] fv ra_3073 T3481.heap h0.size Z3596 (hfv) (hcv) f3554) hZ3481 (wi hw 95 rfl) (wi hw 2 rfl) (by decide) (by decide)) (g := (mkF m 215 #[vI nbits, vI fbits, vI dbits, vI mode, vI lb, vI dep, vR ra_3065, vR ra_3073, vR ra_3093, vR ra_3123, vR va, .val fv, vR nv_3264, vR nv_3481] [fv, fv])) rfl (by rw [hml]; rfl) (argsL := [fv, fv]) (rest := []) (lenOf pd__Ljava_lang_String_Ljava_lang_String__Z rfl) rfl (by show 2 * 0 + _ ≤ _; exact Nat.le_of_eq rfl) (hb hby at_215) (fun _ _ => ⟨rfl, K3601, (by decide : 36 + 0 ≤ _), (by decide : 226 + 0 ≤ _)⟩)
      dsimp only [Pt.U, Pt.locs, Pt.cells, Pt.slots] at X3603 l3603 y3603 z3603 st3603 hQ3603
      subst l3603 y3603 z3603
      obtain ⟨rfl, NQ3603, K3603⟩ := hQ3603
      have N3604 := Fr.app N3602 NQ3603
      refine Rch.st (fun _ k => st3603 _ k) ?_
      show Rch p e below T3603 (mkF m 218 #[vI nbits, vI fbits, vI dbits, vI mode, vI lb, vI dep, vR ra_3065, vR ra_3073, vR ra_3093, vR ra_3123, vR va, .val fv, vR nv_3264, vR nv_3481] [(.int 1)]) _
      refine w_ifNo (pc' := 221) X3603 hx hby at_218 (XT.i0_eq_f (by decide)) rfl ?_
      refine w_iconst (pc' := 222) (v := 1) X3603 hx hby at_221 rfl rfl ?_
      refine w_goto (pc' := 226) X3603 hx hby at_222 (by decide) ?_
      exact Rch.retVW X3603 hx hS3481 (by rw [K3603]; exact hk3481) Bd.returns rfl (Or.inl ⟨rfl, by simp, _, rfl⟩) (hb hby at_226) (by rw [K3603]; exact ⟨rfl, (own_Fr Z0 N3604), Kp3595, own_ib_mono (own_ib (s := s.setVm T3481.vm) IQ3481 X3603.warmed) (by decide)⟩) (by decide) (by decide)
   by_cases hlb : lb = 0
   ·skip
    refine w_ifYes (pc' := 80) X3123 hx hby at_62 (XT.i0_eq_t (hlb)) (by decide) ?_
    obtain ⟨T3605, h3605, X3605, e3605, E3605, A3605, D3605, -, st3605⟩ := newO X3123 hx hZ hown (wi hw 34 rfl) (wi hw 35 rfl) (wi hw 36 rfl) (rfl : T3123.heap = T3123.heap) (g := (mkF m 80 #[vI nbits, vI fbits, vI dbits, vI mode, vI lb, vI dep, vR ra_3065, vR ra_3073, vR ra_3093, vR ra_3123, U, U, U, U] [])) rfl (hb hby at_80) (by decide) (by decide)
    obtain ⟨a3605, g3605⟩ : ∃ z, z = T3123.heap.size := ⟨_, rfl⟩
    rw [← g3605] at A3605 D3605 st3605
    have ne3606 : ra_3065 ≠ a3605 := by rw [g3605]; exact Nat.ne_of_lt f3139.lt
    have ne3608 : ra_3093 ≠ a3605 := by rw [g3605]; exact Nat.ne_of_lt f3153.lt
    have ne3609 : ra_3123 ≠ a3605 := by rw [g3605]; exact Nat.ne_of_lt fq3123_0.lt
    have ne3610 : t_3065 ≠ a3605 := by rw [g3605]; exact Nat.ne_of_lt f3144.lt
    have ne3612 : t_3093 ≠ a3605 := by rw [g3605]; exact Nat.ne_of_lt f3158.lt
    have ne3613 : t_3123 ≠ a3605 := by rw [g3605]; exact Nat.ne_of_lt fq3123_5.lt
    have ge3614 : h0.size ≤ a3605 := Nat.le_trans Z3162 (Nat.le_of_eq g3605.symm)
    have hk3616 := Nat.le_trans hk3163 E3605.1
    have f3617 := f3139.ext E3605
    have f3618 := f3140.ext E3605
    have f3619 := f3141.ext E3605
    have f3620 := f3142.ext E3605
    have f3621 := f3143.ext E3605
    have f3622 := f3144.ext E3605
    have f3623 := f3145.ext E3605
    have f3624 := f3146.ext E3605
    have f3631 := f3153.ext E3605
    have f3632 := f3154.ext E3605
    have f3633 := f3155.ext E3605
    have f3634 := f3156.ext E3605
    have f3635 := f3157.ext E3605
    have f3636 := f3158.ext E3605
    have f3637 := f3159.ext E3605
    have f3638 := fq3123_0.ext E3605
    have f3639 := fq3123_1.ext E3605
    have f3640 := fq3123_2.ext E3605
    have f3641 := fq3123_3.ext E3605
    have f3642 := fq3123_4.ext E3605
    have f3643 := fq3123_5.ext E3605
    have f3644 := fq3123_6.ext E3605
    have Old3645 := Old3160.ext E3605
    have Z3646 := Nat.le_trans Z3162 E3605.1
    have Kp3647 : Keep h0 h3605 [] := Kp3161.ext E3605
    have f3648 : Fld Z h3605 a3605 "com/example/mandoline/mandoline/Variable" "fields" "Ljava/util/Map;" .null := D3605 (Or.inr (wi hw 71 rfl)) (ty := (.object "java/util/Map")) (by decide)
    have f3649 : Fld Z h3605 a3605 "com/example/mandoline/mandoline/Variable" "declarationNodes" "Ljava/util/List;" .null := D3605 (Or.inl (wi hw 79 rfl)) (ty := (.object "java/util/List")) (by decide)
    have f3650 : Fld Z h3605 a3605 "com/example/mandoline/mandoline/Variable" "name" "Ljava/lang/String;" .null := D3605 (Or.inr (wi hw 81 rfl)) (ty := (.object "java/lang/String")) (by decide)
    have f3651 : Fld Z h3605 a3605 "com/example/mandoline/mandoline/Variable" "declaringStatement" "Lcom/example/mandoline/mandoline/ClangNode;" .null := D3605 (Or.inr (wi hw 83 rfl)) (ty := (.object "com/example/mandoline/mandoline/ClangNode")) (by decide)
    have f3652 : Fld Z h3605 a3605 "com/example/mandoline/mandoline/Variable" "function" "Ljava/lang/String;" .null := D3605 (Or.inr (wi hw 85 rfl)) (ty := (.object "java/lang/String")) (by decide)
    have f3653 : Fld Z h3605 a3605 "com/example/mandoline/mandoline/Variable" "containing" "Lcom/example/mandoline/mandoline/Variable;" .null := D3605 (Or.inr (wi hw 87 rfl)) (ty := (.object "com/example/mandoline/mandoline/Variable")) (by decide)
    refine Rch.st (fun _ k => st3605 _ k) ?_
    show Rch p e below T3605 (mkF m 83 #[vI nbits, vI fbits, vI dbits, vI mode, vI lb, vI dep, vR ra_3065, vR ra_3073, vR ra_3093, vR ra_3123, U, U, U, U] [(.ref a3605)]) _
    refine w_dup (pc' := 84) X3605 hx hby at_83 rfl rfl ?_
    refine w_aload (pc' := 86) X3605 hx hby at_84 rfl rfl rfl ?_
    refine w_aconstNull (pc' := 87) X3605 hx hby at_86 rfl ?_
    obtain ⟨_, _, ⟨T3654, L3654, k3654, n3654⟩, -, X3654, ⟨Lc3654, hQ3654, l3654, y3654, z3654⟩, st3654⟩ := X3605.specialBack hx (y := y_61) rfl hown (mvT hZ (wi hw 104 rfl)) (mvT hZ (wi hw 105 rfl)) (mvT hZ (wi hw 106 rfl)) (by decide) (backOf (W := 1) (rm_v2 l Z a0 hw [] G6 a3605 ra_3065 h3605 h0.size Z3646 (O6) A3605 f3648 f3649 f3650 f3651 f3652 f3653 (ge3614) Old3645) hZ (wi hw 106 rfl) (wi hw 36 rfl) (by decide) (by decide)) (g := (mkF m 87 #[vI nbits, vI fbits, vI dbits, vI mode, vI lb, vI dep, vR ra_3065, vR ra_3073, vR ra_3093, vR ra_3123, U, U, U, U] [.null, (.ref ra_3065), (.ref a3605), (.ref a3605)])) rfl (by rw [hml]; rfl) (Steps.refl _) (a := a3605) (argsL := [(.ref ra_3065), .null]) (rest := [(.ref a3605)]) (lenOf pd__Ljava_lang_String_Lcom_example_mandoline_mandoline_ClangNode__V rfl) rfl (by show 2 * 0 + _ ≤ _; exact Nat.le_of_eq rfl) (hb hby at_87) (fun _ _ => ⟨rfl, e3605, (by decide : 13 + 1 ≤ _), (by decide : 38 + 12 ≤ _)⟩)
    dsimp only [Pt.U, Pt.locs, Pt.cells, Pt.slots] at X3654 l3654 y3654 z3654 st3654 hQ3654
    subst l3654 y3654 z3654
    obtain ⟨m2_3654, rfl, NQ3654, K3654, pq3654_0, fq3654_0, fq3654_1, fq3654_2, fq3654_3, fq3654_4, fq3654_5, fq3654_6, fq3654_7, fq3654_8, fq3654_9, fq3654_10, fq3654_11, fq3654_12⟩ := hQ3654
    have N3655 := Fr.app N3124 NQ3654
    have f3666 := f3617.keep K3654
    have f3667 := f3618.keep K3654 (ninS ne3606 nin0)
    have f3668 := f3619.keep K3654 (ninS ne3606 nin0)
    have f3669 := f3620.keep K3654 (ninS ne3606 nin0)
    have f3670 := f3621.keep K3654 (ninS ne3606 nin0)
    have f3671 := f3622.keep K3654 (ninS ne3610 nin0)
    have f3672 := f3623.keep K3654
    have f3673 := f3624.keep K3654
    have f3680 := f3631.keep K3654
    have f3681 := f3632.keep K3654 (ninS ne3608 nin0)
    have f3682 := f3633.keep K3654 (ninS ne3608 nin0)
    have f3683 := f3634.keep K3654 (ninS ne3608 nin0)
    have f3684 := f3635.keep K3654 (ninS ne3608 nin0)
    have f3685 := f3636.keep K3654 (ninS ne3612 nin0)
    have f3686 := f3637.keep K3654
    have f3687 := f3638.keep K3654
    have f3688 := f3639.keep K3654 (ninS ne3609 nin0)
    have f3689 := f3640.keep K3654 (ninS ne3609 nin0)
    have f3690 := f3641.keep K3654 (ninS ne3609 nin0)
    have f3691 := f3642.keep K3654 (ninS ne3609 nin0)
    have f3692 := f3643.keep K3654 (ninS ne3613 nin0)
    have f3693 := f3644.keep K3654
    have f3694 := A3605.keep K3654
    have Old3695 := Old3645.keep K3654 (allS ge3614 all0)
    have Kp3696 : Keep h0 T3654.heap [] := Kp3647.trans K3654 (allS (Or.inr (Nat.le_trans Kp3161.1 (Nat.le_of_eq g3605.symm))) all0)
    have Z3697 := Nat.le_trans Z3646 K3654.1
    have hk3698 := Nat.le_trans hk3616 K3654.1
    refine Rch.st (fun _ k => st3654.trans k) ?_
    show Rch p e below T3654 (mkF m 90 #[vI nbits, vI fbits, vI dbits, vI mode, vI lb, vI dep, vR ra_3065, vR ra_3073, vR ra_3093, vR ra_3123, U, U, U, U] [(.ref a3605)]) _
    refine w_astore (pc' := 92) (l' := #[vI nbits, vI fbits, vI dbits, vI mode, vI lb, vI dep, vR ra_3065, vR ra_3073, vR ra_3093, vR ra_3123, vR a3605, U, U, U]) X3654 hx hby at_90 rfl rfl rfl ?_
    refine w_iload (pc' := 94) X3654 hx hby at_92 rfl rfl ?_
    refine w_ifYes (pc' := 102) X3654 hx hby at_94 (XT.i0_eq_t (hlb)) (by decide) ?_
    refine w_aconstNull (pc' := 103) X3654 hx hby at_102 rfl ?_
    refine w_astore (pc' := 105) (l' := #[vI nbits, vI fbits, vI dbits, vI mode, vI lb, vI dep, vR ra_3065, vR ra_3073, vR ra_3093, vR ra_3123, vR a3605, vN, U, U]) X3654 hx hby at_103 rfl rfl rfl ?_
    exact J _ _ _ a3605 m2_3654 .null X3654 (rfl : T3654.heap = T3654.heap) N3655 Old3695 Z3697 Kp3696 hk3698 f3666 f3667 f3668 f3669 f3670 f3671 f3672 f3673 f3680 f3681 f3682 f3683 f3684 f3685 f3686 f3687 f3688 f3689 f3690 f3691 f3692 f3693 f3694 fq3654_0 fq3654_1 fq3654_2 fq3654_3 fq3654_5 fq3654_6 fq3654_7 fq3654_8 fq3654_9 fq3654_10 fq3654_11 fq3654_12 (rfl) (Or.inl rfl) ((Nat.le_trans Kp3647.1 pq3654_0))
   ·skip
    refine w_ifNo (pc' := 65) X3123 hx hby at_62 (XT.i0_eq_f (hlb)) rfl ?_
    obtain ⟨T3699, h3699, X3699, e3699, E3699, A3699, D3699, -, st3699⟩ := newO X3123 hx hZ hown (wi hw 34 rfl) (wi hw 35 rfl) (wi hw 36 rfl) (rfl : T3123.heap = T3123.heap) (g := (mkF m 65 #[vI nbits, vI fbits, vI dbits, vI mode, vI lb, vI dep, vR ra_3065, vR ra_3073, vR ra_3093, vR ra_3123, U, U, U, U] [])) rfl (hb hby at_65) (by decide) (by decide)
    obtain ⟨a3699, g3699⟩ : ∃ z, z = T3123.heap.size := ⟨_, rfl⟩
    rw [← g3699] at A3699 D3699 st3699
    have ne3700 : ra_3065 ≠ a3699 := by rw [g3699]; exact Nat.ne_of_lt f3139.lt
    have ne3702 : ra_3093 ≠ a3699 := by rw [g3699]; exact Nat.ne_of_lt f3153.lt
    have ne3703 : ra_3123 ≠ a3699 := by rw [g3699]; exact Nat.ne_of_lt fq3123_0.lt
    have ne3704 : t_3065 ≠ a3699 := by rw [g3699]; exact Nat.ne_of_lt f3144.lt
    have ne3706 : t_3093 ≠ a3699 := by rw [g3699]; exact Nat.ne_of_lt f3158.lt
    have ne3707 : t_3123 ≠ a3699 := by rw [g3699]; exact Nat.ne_of_lt fq3123_5.lt
    have ge3708 : h0.size ≤ a3699 := Nat.le_trans Z3162 (Nat.le_of_eq g3699.symm)
    have hk3710 := Nat.le_trans hk3163 E3699.1
    have f3711 := f3139.ext E3699
    have f3712 := f3140.ext E3699
    have f3713 := f3141.ext E3699
    have f3714 := f3142.ext E3699
    have f3715 := f3143.ext E3699
    have f3716 := f3144.ext E3699
    have f3717 := f3145.ext E3699
    have f3718 := f3146.ext E3699
    have f3725 := f3153.ext E3699
    have f3726 := f3154.ext E3699
    have f3727 := f3155.ext E3699
    have f3728 := f3156.ext E3699
    have f3729 := f3157.ext E3699
    have f3730 := f3158.ext E3699
    have f3731 := f3159.ext E3699
    have f3732 := fq3123_0.ext E3699
    have f3733 := fq3123_1.ext E3699
    have f3734 := fq3123_2.ext E3699
    have f3735 := fq3123_3.ext E3699
    have f3736 := fq3123_4.ext E3699
    have f3737 := fq3123_5.ext E3699
    have f3738 := fq3123_6.ext E3699
    have Old3739 := Old3160.ext E3699
    have Z3740 := Nat.le_trans Z3162 E3699.1
    have Kp3741 : Keep h0 h3699 [] := Kp3161.ext E3699
    have f3742 : Fld Z h3699 a3699 "com/example/mandoline/mandoline/Variable" "fields" "Ljava/util/Map;" .null := D3699 (Or.inr (wi hw 71 rfl)) (ty := (.object "java/util/Map")) (by decide)
    have f3743 : Fld Z h3699 a3699 "com/example/mandoline/mandoline/Variable" "declarationNodes" "Ljava/util/List;" .null := D3699 (Or.inl (wi hw 79 rfl)) (ty := (.object "java/util/List")) (by decide)
    have f3744 : Fld Z h3699 a3699 "com/example/mandoline/mandoline/Variable" "name" "Ljava/lang/String;" .null := D3699 (Or.inr (wi hw 81 rfl)) (ty := (.object "java/lang/String")) (by decide)
    have f3745 : Fld Z h3699 a3699 "com/example/mandoline/mandoline/Variable" "declaringStatement" "Lcom/example/mandoline/mandoline/ClangNode;" .null := D3699 (Or.inr (wi hw 83 rfl)) (ty := (.object "com/example/mandoline/mandoline/ClangNode")) (by decide)
    have f3746 : Fld Z h3699 a3699 "com/example/mandoline/mandoline/Variable" "function" "Ljava/lang/String;" .null := D3699 (Or.inr (wi hw 85 rfl)) (ty := (.object "java/lang/String")) (by decide)
    have f3747 : Fld Z h3699 a3699 "com/example/mandoline/mandoline/Variable" "containing" "Lcom/example/mandoline/mandoline/Variable;" .null := D3699 (Or.inr (wi hw 87 rfl)) (ty := (.object "com/example/mandoline/mandoline/Variable")) (by decide)
    refine Rch.st (fun _ k => st3699 _ k) ?_
    show Rch p e below T3699 (mkF m 68 #[vI nbits, vI fbits, vI dbits, vI mode, vI lb, vI dep, vR ra_3065, vR ra_3073, vR ra_3093, vR ra_3123, U, U, U, U] [(.ref a3699)]) _
    refine w_dup (pc' := 69) X3699 hx hby at_68 rfl rfl ?_
    refine w_aload (pc' := 71) X3699 hx hby at_69 rfl rfl rfl ?_
    refine w_aconstNull (pc' := 72) X3699 hx hby at_71 rfl ?_
    refine w_aload (pc' := 74) X3699 hx hby at_72 rfl rfl rfl ?_
    obtain ⟨_, _, ⟨T3748, L3748, k3748, n3748⟩, -, X3748, ⟨Lc3748, hQ3748, l3748, y3748, z3748⟩, st3748⟩ := X3699.specialBack hx (y := y_60) rfl hown (mvT hZ (wi hw 37 rfl)) (mvT hZ (wi hw 38 rfl)) (mvT hZ (wi hw 39 rfl)) (by decide) (backOf (W := 1) (rm_v3 l Z a0 hw [] G6 a3699 ra_3065 (.ref ra_3073) h3699 h0.size Z3740 (O6) A3699 f3742 f3743 f3744 f3745 f3746 f3747 (ge3708) (rfl) Old3739) hZ (wi hw 39 rfl) (wi hw 36 rfl) (by decide) (by decide)) (g := (mkF m 74 #[vI nbits, vI fbits, vI dbits, vI mode, vI lb, vI dep, vR ra_3065, vR ra_3073, vR ra_3093, vR ra_3123, U, U, U, U] [(.ref ra_3073), .null, (.ref ra_3065), (.ref a3699), (.ref a3699)])) rfl (by rw [hml]; rfl) (Steps.refl _) (a := a3699) (argsL := [(.ref ra_3065), .null, (.ref ra_3073)]) (rest := [(.ref a3699)]) (lenOf pd__Ljava_lang_String_Lcom_example_mandoline_mandoline_ClangNode_Ljava_lang_String__V rfl) rfl (by show 2 * 0 + _ ≤ _; exact Nat.le_of_eq rfl) (hb hby at_74) (fun _ _ => ⟨rfl, e3699, (by decide : 13 + 1 ≤ _), (by decide : 38 + 12 ≤ _)⟩)
    dsimp only [Pt.U, Pt.locs, Pt.cells, Pt.slots] at X3748 l3748 y3748 z3748 st3748 hQ3748
    subst l3748 y3748 z3748
    obtain ⟨m2_3748, rfl, NQ3748, K3748, pq3748_0, fq3748_0, fq3748_1, fq3748_2, fq3748_3, fq3748_4, fq3748_5, fq3748_6, fq3748_7, fq3748_8, fq3748_9, fq3748_10, fq3748_11, fq3748_12⟩ := hQ3748
    have N3749 := Fr.app N3124 NQ3748
    have f3760 := f3711.keep K3748
    have f3761 := f3712.keep K3748 (ninS ne3700 nin0)
    have f3762 := f3713.keep K3748 (ninS ne3700 nin0)
    have f3763 := f3714.keep K3748 (ninS ne3700 nin0)
    have f3764 := f3715.keep K3748 (ninS ne3700 nin0)
    have f3765 := f3716.keep K3748 (ninS ne3704 nin0)
    have f3766 := f3717.keep K3748
    have f3767 := f3718.keep K3748
    have f3774 := f3725.keep K3748
    have f3775 := f3726.keep K3748 (ninS ne3702 nin0)
    have f3776 := f3727.keep K3748 (ninS ne3702 nin0)
    have f3777 := f3728.keep K3748 (ninS ne3702 nin0)
    have f3778 := f3729.keep K3748 (ninS ne3702 nin0)
    have f3779 := f3730.keep K3748 (ninS ne3706 nin0)
    have f3780 := f3731.keep K3748
    have f3781 := f3732.keep K3748
    have f3782 := f3733.keep K3748 (ninS ne3703 nin0)
    have f3783 := f3734.keep K3748 (ninS ne3703 nin0)
    have f3784 := f3735.keep K3748 (ninS ne3703 nin0)
    have f3785 := f3736.keep K3748 (ninS ne3703 nin0)
    have f3786 := f3737.keep K3748 (ninS ne3707 nin0)
    have f3787 := f3738.keep K3748
    have f3788 := A3699.keep K3748
    have Old3789 := Old3739.keep K3748 (allS ge3708 all0)
    have Kp3790 : Keep h0 T3748.heap [] := Kp3741.trans K3748 (allS (Or.inr (Nat.le_trans Kp3161.1 (Nat.le_of_eq g3699.symm))) all0)
    have Z3791 := Nat.le_trans Z3740 K3748.1
    have hk3792 := Nat.le_trans hk3710 K3748.1
    refine Rch.st (fun _ k => st3748.trans k) ?_
    show Rch p e below T3748 (mkF m 77 #[vI nbits, vI fbits, vI dbits, vI mode, vI lb, vI dep, vR ra_3065, vR ra_3073, vR ra_3093, vR ra_3123, U, U, U, U] [(.ref a3699)]) _
    refine w_goto (pc' := 90) X3748 hx hby at_77 (by decide) ?_
    refine w_astore (pc' := 92) (l' := #[vI nbits, vI fbits, vI dbits, vI mode, vI lb, vI dep, vR ra_3065, vR ra_3073, vR ra_3093, vR ra_3123, vR a3699, U, U, U]) X3748 hx hby at_90 rfl rfl rfl ?_
    refine w_iload (pc' := 94) X3748 hx hby at_92 rfl rfl ?_
    refine w_ifNo (pc' := 97) X3748 hx hby at_94 (XT.i0_eq_f (hlb)) rfl ?_
    refine w_aload (pc' := 99) X3748 hx hby at_97 rfl rfl rfl ?_
    refine w_goto (pc' := 103) X3748 hx hby at_99 (by decide) ?_
    refine w_astore (pc' := 105) (l' := #[vI nbits, vI fbits, vI dbits, vI mode, vI lb, vI dep, vR ra_3065, vR ra_3073, vR ra_3093, vR ra_3123, vR a3699, vR ra_3073, U, U]) X3748 hx hby at_103 rfl rfl rfl ?_
    exact J _ _ _ a3699 m2_3748 (.ref ra_3073) X3748 (rfl : T3748.heap = T3748.heap) N3749 Old3789 Z3791 Kp3790 hk3792 f3760 f3761 f3762 f3763 f3764 f3765 f3766 f3767 f3774 f3775 f3776 f3777 f3778 f3779 f3780 f3781 f3782 f3783 f3784 f3785 f3786 f3787 f3788 fq3748_0 fq3748_1 fq3748_2 fq3748_3 fq3748_5 fq3748_6 fq3748_7 fq3748_8 fq3748_9 fq3748_10 fq3748_11 fq3748_12 (rfl) (Or.inr rfl) ((Nat.le_trans Kp3741.1 pq3748_0))
  ·skip
   refine w_ifNo (pc' := 40) X3073 hx hby at_37 (XT.i0_eq_f (c3092)) rfl ?_
   obtain ⟨a3793, T3793, h3793, k3793, b3793, kc3793, X3793, e3793, E3793, hS3793, hk3793, hZ3793, hown3793, Ex3793, Fc3793, Fv3793, Va3793, lt3793, lu3793, I3793, Li3793, st3793⟩ := ldcSVL (s := s) (vm0 := s.vm) X3073 hx hZ hown (wi hw 101 rfl) (fun d hd => hw d ((by decide +kernel : ∀ d ∈ Bundle.stringAtoms, d ∈ tables_1) d hd)) (rfl : T3073.heap = T3073.heap) hS0 hk3091 (by rw [hh]; exact N3074) hkeep hI (by decide) H22 hcw (vs := []) (z := (0 : Int32)) ⟨by decide, by decide⟩ (by decide) (by decide) (g := (mkF m 40 #[vI nbits, vI fbits, vI dbits, vI mode, vI lb, vI dep, vR ra_3065, vR ra_3073, U, U, U, U, U, U] [])) rfl (hb hby at_40) (n := 0) (by decide) (by decide) (by decide) (by decide)
   have f3802 := fq3073_0.ext E3793
   have Old3809 := Old3088.ext E3793
   have Z3810 := Nat.le_trans Z3090 E3793.1
   have Kp3811 : Keep h0 h3793 [] := Kp3089.ext E3793
   refine Rch.st (fun _ k => st3793 _ k) ?_
   show Rch p e below T3793 (mkF m 42 #[vI nbits, vI fbits, vI dbits, vI mode, vI lb, vI dep, vR ra_3065, vR ra_3073, U, U, U, U, U, U] [(.ref a3793)]) _
   refine w_goto (pc' := 52) X3793 hx hby at_42 (by decide) ?_
   refine w_astore (pc' := 54) (l' := #[vI nbits, vI fbits, vI dbits, vI mode, vI lb, vI dep, vR ra_3065, vR ra_3073, vR a3793, U, U, U, U, U]) X3793 hx hby at_52 rfl rfl rfl ?_
   refine w_iloadN (pc' := 55) X3793 hx hby at_54 rfl rfl ?_
   obtain ⟨_, _, ⟨T3812, L3812, k3812, n3812⟩, -, X3812, ⟨Lc3812, hQ3812, l3812, y3812, z3812⟩, st3812⟩ := Jvm.LawKit.callS X3793 hx (y := y_29) hown3793 (mvT hZ3793 (wi hw 0 rfl)) (mvT hZ3793 (wi hw 1 rfl)) (mvT hZ3793 (wi hw 2 rfl)) (mvT hZ3793 (wi hw 3 rfl)) (by decide) (backOf (W := 0) (rm_s2 l Z a0 hw [] G1 dbits h3793 h0.size Z3810 (O2) (P5) Old3809) hZ3793 (wi hw 3 rfl) (wi hw 2 rfl) (by decide) (by decide)) (g := (mkF m 55 #[vI nbits, vI fbits, vI dbits, vI mode, vI lb, vI dep, vR ra_3065, vR ra_3073, vR a3793, U, U, U, U, U] [(.int dbits)])) rfl (by rw [hml]; rfl) (argsL := [(.int dbits)]) (rest := []) (lenOf pd__I_Ljava_lang_String_ rfl) rfl (by show 2 * 0 + _ ≤ _; exact Nat.le_of_eq rfl) (hb hby at_55) (fun _ _ => ⟨rfl, e3793, (by decide : 8 + 3 ≤ _), (by decide : 20 + 8 ≤ _)⟩)
   dsimp only [Pt.U, Pt.locs, Pt.cells, Pt.slots] at X3812 l3812 y3812 z3812 st3812 hQ3812
   subst l3812 y3812 z3812
   obtain ⟨ra_3812, t_3812, kt_3812, x0_3812, x1_3812, rfl, NQ3812, K3812, pq3812_0, pq3812_1, fq3812_0, fq3812_1, fq3812_2, fq3812_3, fq3812_4, fq3812_5, fq3812_6⟩ := hQ3812
   have N3813 := Fr.app N3074 NQ3812
   have ne3814 := nlt Ex3793.lt pq3812_0
   have ne3815 := nlt Va3793.lt pq3812_0
   have ge3820 : h0.size ≤ ra_3812 := Nat.le_trans Z3810 pq3812_0
   have f3835 := f3802.keep K3812
   have f3842 := Ex3793.keep K3812
   have f3843 := Fc3793.keep K3812 nin0
   have f3844 := Fv3793.keep K3812 nin0
   have f3845 := Va3793.keep K3812 nin0
   have Old3846 := Old3809.keep K3812 all0
   have Kp3847 : Keep h0 T3812.heap [] := Kp3811.trans K3812 all0
   have Z3848 := Nat.le_trans Z3810 K3812.1
   have hk3849 := Nat.le_trans hk3793 K3812.1
   refine Rch.st (fun _ k => st3812 _ k) ?_
   show Rch p e below T3812 (mkF m 58 #[vI nbits, vI fbits, vI dbits, vI mode, vI lb, vI dep, vR ra_3065, vR ra_3073, vR a3793, U, U, U, U, U] [(.ref ra_3812)]) _
   refine w_astore (pc' := 60) (l' := #[vI nbits, vI fbits, vI dbits, vI mode, vI lb, vI dep, vR ra_3065, vR ra_3073, vR a3793, vR ra_3812, U, U, U, U]) X3812 hx hby at_58 rfl rfl rfl ?_
   refine w_iload (pc' := 62) X3812 hx hby at_60 rfl rfl ?_
   have J : ∀ (Tj : State) (lcj : List Loc) (hj : Heap) (va : Addr) (m1 : Addr) (fv : Value), (Stand p l e room_1 (s.setVm T3793.vm) m #[(.int nbits), (.int fbits), (.int dbits), (.int mode)] below meth c Tj lcj 13 46) → (Tj.heap = hj) → (Fr h0.size lcj) → (OldL Z h0.size hj) → (h0.size ≤ hj.size) → (Keep h0 hj []) → (k3793 ≤ hj.size) → (Exa Z hj ra_3073 "java/lang/String") → (Exa Z hj a3793 "java/lang/String") → (Fld Z hj a3793 "java/lang/String" "coder" "B" (.int (0 : Int32))) → (Fld Z hj a3793 "java/lang/String" "value" "[B" (.ref b3793)) → (Arv Z hj b3793 kc3793 .byte (0 : Int32) [] (.int (0 : Int32))) → (Exa Z hj ra_3812 "java/lang/String") → (Fld Z hj ra_3812 "java/lang/String" "coder" "B" (.int (0 : Int32))) → (Fld Z hj ra_3812 "java/lang/String" "value" "[B" (.ref t_3812)) → (Fld Z hj ra_3812 "java/lang/String" "hash" "I" (.int (0 : Int32))) → (Fld Z hj ra_3812 "java/lang/String" "hashIsZero" "Z" (.int (0 : Int32))) → (Arv Z hj t_3812 kt_3812 .byte (2 : Int32) [(.int x0_3812), (.int x1_3812)] (.int (0 : Int32))) → (Exa Z hj t_3812 "[B") → (Exa Z hj va "com/example/mandoline/mandoline/Variable") → (Fld Z hj va "com/example/mandoline/mandoline/Variable" "fields" "Ljava/util/Map;" (.ref m1)) → (Fld Z hj va "com/example/mandoline/mandoline/Variable" "name" "Ljava/lang/String;" (.ref ra_3065)) → (Fld Z hj va "com/example/mandoline/mandoline/Variable" "function" "Ljava/lang/String;" fv) → (Fld Z hj va "com/example/mandoline/mandoline/Variable" "containing" "Lcom/example/mandoline/mandoline/Variable;" .null) → (Exa Z hj m1 "java/util/LinkedHashMap") → (Fld Z hj m1 "java/util/HashMap" "table" "[Ljava/util/HashMap$Node;" .null) → (Fld Z hj m1 "java/util/HashMap" "size" "I" (.int (0 : Int32))) → (Fld Z hj m1 "java/util/HashMap" "modCount" "I" (.int (0 : Int32))) → (Fld Z hj m1 "java/util/HashMap" "threshold" "I" (.int (0 : Int32))) → (Fld Z hj m1 "java/util/LinkedHashMap" "putMode" "I" (.int (0 : Int32))) → (Fld Z hj m1 "java/util/LinkedHashMap" "head" "Ljava/util/LinkedHashMap$Entry;" .null) → (Fld Z hj m1 "java/util/LinkedHashMap" "tail" "Ljava/util/LinkedHashMap$Entry;" .null) → (fv.isRef = true) → (fv = .null ∨ fv = .ref ra_3073) → (h0.size ≤ m1) →  Rch p e below Tj (mkF m 105 #[vI nbits, vI fbits, vI dbits, vI mode, vI lb, vI dep, vR ra_3065, vR ra_3073, vR a3793, vR ra_3812, vR va, .val fv, U, U] []) (FinW s (Q_rm_law Z G1 G6 nbits fbits dbits mode h0 n0) 80 2560) := by
    intro Tj lcj hj va m1 fv XJ eJ NJ OldJ ZJ KJ hkJ Jf0 Jf1 Jf2 Jf3 Jf4 Jf5 Jf6 Jf7 Jf8 Jf9 Jf10 Jf11 Jf12 Jf13 Jf14 Jf15 Jf16 Jf17 Jf18 Jf19 Jf20 Jf21 Jf22 Jf23 Jf24 hfv hcv gm1
    refine w_aload (pc' := 107) XJ hx hby at_105 rfl hfv rfl ?_
    refine w_aload (pc' := 109) XJ hx hby at_107 rfl rfl rfl ?_
    obtain ⟨cq3850, kq3850, q3850a, q3850b, q3850c⟩ := isOf hZ3793 eJ Jf12
    obtain ⟨_, _, ⟨T3850, L3850, k3850, n3850⟩, -, X3850, ⟨Lc3850, hQ3850, l3850, y3850, z3850⟩, st3850⟩ := XJ.virtualBack hx (y := y_62) (z := y_62) hown3793 (mvT hZ3793 (wi hw 88 rfl)) (mvT hZ3793 (wi hw 89 rfl)) (notFace_of_selects (args := #[]) (mvT hZ3793 (wi hw 91 rfl))) (mvT hZ3793 (wi hw 91 rfl)) (mvT hZ3793 (wi hw 90 rfl)) (by decide) (backOf (W := 1) (rm_fn0 l Z a0 hw [] va fv hj h0.size ZJ Jf12 Jf16 Jf15 (hfv)) hZ3793 (wi hw 92 rfl) (wi hw 36 rfl) (by decide) (by decide)) q3850a q3850c (g := (mkF m 109 #[vI nbits, vI fbits, vI dbits, vI mode, vI lb, vI dep, vR ra_3065, vR ra_3073, vR a3793, vR ra_3812, vR va, .val fv, U, U] [(.ref va), fv])) rfl (by rw [hml]; rfl) (Steps.refl _) (argsL := []) (rest := [fv]) (lenOf pd___Ljava_lang_String_ rfl) rfl (by show 2 * 0 + _ ≤ _; simp [XT.cat1 hfv]) (hb hby at_109) (fun _ _ => ⟨rfl, eJ, (by decide : 13 + 0 ≤ _), (by decide : 46 + 0 ≤ _)⟩)
    dsimp only [Pt.U, Pt.locs, Pt.cells, Pt.slots] at X3850 l3850 y3850 z3850 st3850 hQ3850
    subst l3850 y3850 z3850
    obtain ⟨rfl, NQ3850, K3850⟩ := hQ3850
    have N3851 := Fr.app NJ NQ3850
    refine Rch.st (fun _ k => st3850.trans k) ?_
    show Rch p e below T3850 (mkF m 112 #[vI nbits, vI fbits, vI dbits, vI mode, vI lb, vI dep, vR ra_3065, vR ra_3073, vR a3793, vR ra_3812, vR va, .val fv, U, U] [fv, fv]) _
    obtain ⟨_, _, ⟨T3852, L3852, k3852, n3852⟩, -, X3852, ⟨Lc3852, hQ3852, l3852, y3852, z3852⟩, st3852⟩ := Jvm.LawKit.callS X3850 hx (y := y_31) hown3793 (mvT hZ3793 (wi hw 93 rfl)) (mvT hZ3793 (wi hw 94 rfl)) (mvT hZ3793 (wi hw 2 rfl)) (mvT hZ3793 (wi hw 95 rfl)) (by decide) (backOf (W := 0) (rm_sm l Z a0 hw [] fv ra_3073 hj h0.size ZJ (hfv) (hcv) Jf0) hZ3793 (wi hw 95 rfl) (wi hw 2 rfl) (by decide) (by decide)) (g := (mkF m 112 #[vI nbits, vI fbits, vI dbits, vI mode, vI lb, vI dep, vR ra_3065, vR ra_3073, vR a3793, vR ra_3812, vR va, .val fv, U, U] [fv, fv])) rfl (by rw [hml]; rfl) (argsL := [fv, fv]) (rest := []) (lenOf pd__Ljava_lang_String_Ljava_lang_String__Z rfl) rfl (by show 2 * 0 + _ ≤ _; exact Nat.le_of_eq rfl) (hb hby at_112) (fun _ _ => ⟨rfl, K3850, (by decide : 13 + 0 ≤ _), (by decide : 46 + 0 ≤ _)⟩)
    dsimp only [Pt.U, Pt.locs, Pt.cells, Pt.slots] at X3852 l3852 y3852 z3852 st3852 hQ3852
    subst l3852 y3852 z3852
    obtain ⟨rfl, NQ3852, K3852⟩ := hQ3852
    have N3853 := Fr.app N3851 NQ3852
    refine Rch.st (fun _ k => st3852 _ k) ?_
    show Rch p e below T3852 (mkF m 115 #[vI nbits, vI fbits, vI dbits, vI mode, vI lb, vI dep, vR ra_3065, vR ra_3073, vR a3793, vR ra_3812, vR va, .val fv, U, U] [(.int 1)]) _
    refine w_ifYes (pc' := 120) X3852 hx hby at_115 (XT.i0_ne_t (by decide)) (by decide) ?_
    refine w_iload (pc' := 122) X3852 hx hby at_120 rfl rfl ?_
    by_cases c3854 : dep = 0
    ·skip
     refine w_ifNo (pc' := 125) X3852 hx hby at_122 (XT.i0_ne_f (c3854)) rfl ?_
     refine w_iconst (pc' := 126) (v := 1) X3852 hx hby at_125 rfl rfl ?_
     exact Rch.retVW X3852 hx hS3793 (by rw [K3852]; exact hkJ) Bd.returns rfl (Or.inl ⟨rfl, by simp, _, rfl⟩) (hb hby at_126) (by rw [K3852]; exact ⟨rfl, (own_Fr Z0 N3853), KJ, own_ib_mono (own_ib (s := s.setVm T3793.vm) I3793 X3852.warmed) (by decide)⟩) (by decide) (by decide)
    ·skip
     refine w_ifYes (pc' := 127) X3852 hx hby at_122 (XT.i0_ne_t (c3854)) (by decide) ?_
     refine w_aload (pc' := 129) X3852 hx hby at_127 rfl rfl rfl ?_
     obtain ⟨T3855, h3855, X3855, e3855, E3855, A3855, D3855, -, st3855⟩ := newO X3852 hx hZ3793 hown3793 (wi hw 107 rfl) (wi hw 108 rfl) (wi hw 109 rfl) K3852 (g := (mkF m 129 #[vI nbits, vI fbits, vI dbits, vI mode, vI lb, vI dep, vR ra_3065, vR ra_3073, vR a3793, vR ra_3812, vR va, .val fv, U, U] [(.ref va)])) rfl (hb hby at_129) (by decide) (by decide)
     obtain ⟨a3855, g3855⟩ : ∃ z, z = hj.size := ⟨_, rfl⟩
     rw [← g3855] at A3855 D3855 st3855
     have ne3856 : a3793 ≠ a3855 := by rw [g3855]; exact Nat.ne_of_lt Jf1.lt
     have ne3857 : b3793 ≠ a3855 := by rw [g3855]; exact Nat.ne_of_lt Jf4.lt
     have ne3858 : m1 ≠ a3855 := by rw [g3855]; exact Nat.ne_of_lt Jf17.lt
     have ne3860 : ra_3812 ≠ a3855 := by rw [g3855]; exact Nat.ne_of_lt Jf5.lt
     have ne3861 : t_3812 ≠ a3855 := by rw [g3855]; exact Nat.ne_of_lt Jf10.lt
     have ne3862 : va ≠ a3855 := by rw [g3855]; exact Nat.ne_of_lt Jf12.lt
     have ge3863 : h0.size ≤ a3855 := Nat.le_trans ZJ (Nat.le_of_eq g3855.symm)
     have hk3865 := Nat.le_trans hkJ E3855.1
     have f3866 := Jf0.ext E3855
     have f3867 := Jf1.ext E3855
     have f3868 := Jf2.ext E3855
     have f3869 := Jf3.ext E3855
     have f3870 := Jf4.ext E3855
     have f3871 := Jf5.ext E3855
     have f3872 := Jf6.ext E3855
     have f3873 := Jf7.ext E3855
     have f3874 := Jf8.ext E3855
     have f3875 := Jf9.ext E3855
     have f3876 := Jf10.ext E3855
     have f3877 := Jf11.ext E3855
     have f3878 := Jf12.ext E3855
     have f3879 := Jf13.ext E3855
     have f3880 := Jf14.ext E3855
     have f3881 := Jf15.ext E3855
     have f3882 := Jf16.ext E3855
     have f3883 := Jf17.ext E3855
     have f3884 := Jf18.ext E3855
     have f3885 := Jf19.ext E3855
     have f3886 := Jf20.ext E3855
     have f3887 := Jf21.ext E3855
     have f3888 := Jf22.ext E3855
     have f3889 := Jf23.ext E3855
     have f3890 := Jf24.ext E3855
     have Old3891 := OldJ.ext E3855
     have Z3892 := Nat.le_trans ZJ E3855.1
     have Kp3893 : Keep h0 h3855 [] := KJ.ext E3855
     have f3894 : Fld Z h3855 a3855 "com/example/mandoline/mandoline/Place$Field" "key" "Ljava/lang/String;" .null := D3855 (Or.inr (wi hw 120 rfl)) (ty := (.object "java/lang/String")) (by decide)
     have f3895 : Fld Z h3855 a3855 "com/example/mandoline/mandoline/Place$Field" "name" "Ljava/lang/String;" .null := D3855 (Or.inr (wi hw 122 rfl)) (ty := (.object "java/lang/String")) (by decide)
     refine Rch.st (fun _ k => st3855 _ k) ?_
     show Rch p e below T3855 (mkF m 132 #[vI nbits, vI fbits, vI dbits, vI mode, vI lb, vI dep, vR ra_3065, vR ra_3073, vR a3793, vR ra_3812, vR va, .val fv, U, U] [(.ref a3855), (.ref va)]) _
     refine w_dup (pc' := 133) X3855 hx hby at_132 rfl rfl ?_
     refine w_aload (pc' := 135) X3855 hx hby at_133 rfl rfl rfl ?_
     refine w_aload (pc' := 137) X3855 hx hby at_135 rfl rfl rfl ?_
     obtain ⟨_, _, ⟨T3896, L3896, k3896, n3896⟩, -, X3896, ⟨Lc3896, hQ3896, l3896, y3896, z3896⟩, st3896⟩ := X3855.specialBack hx (y := y_38) rfl hown3793 (mvT hZ3793 (wi hw 110 rfl)) (mvT hZ3793 (wi hw 111 rfl)) (mvT hZ3793 (wi hw 112 rfl)) (by decide) (backOf (W := 2) (rm_fd l Z a0 hw [] a3855 ra_3812 a3793 h3855 h0.size Z3892 A3855 f3894 f3895 (ge3863)) hZ3793 (wi hw 112 rfl) (wi hw 109 rfl) (by decide) (by decide)) (g := (mkF m 137 #[vI nbits, vI fbits, vI dbits, vI mode, vI lb, vI dep, vR ra_3065, vR ra_3073, vR a3793, vR ra_3812, vR va, .val fv, U, U] [(.ref a3793), (.ref ra_3812), (.ref a3855), (.ref a3855), (.ref va)])) rfl (by rw [hml]; rfl) (Steps.refl _) (a := a3855) (argsL := [(.ref ra_3812), (.ref a3793)]) (rest := [(.ref a3855), (.ref va)]) (lenOf pd__Ljava_lang_String_Ljava_lang_String__V rfl) rfl (by show 2 * 0 + _ ≤ _; exact Nat.le_of_eq rfl) (hb hby at_137) (fun _ _ => ⟨rfl, e3855, (by decide : 14 + 0 ≤ _), (by decide : 48 + 0 ≤ _)⟩)
     dsimp only [Pt.U, Pt.locs, Pt.cells, Pt.slots] at X3896 l3896 y3896 z3896 st3896 hQ3896
     subst l3896 y3896 z3896
     obtain ⟨rfl, NQ3896, K3896, fq3896_0, fq3896_1⟩ := hQ3896
     have N3897 := Fr.app N3853 NQ3896
     have f3898 := f3866.keep K3896
     have f3899 := f3867.keep K3896
     have f3900 := f3868.keep K3896 (ninS ne3856 nin0)
     have f3901 := f3869.keep K3896 (ninS ne3856 nin0)
     have f3902 := f3870.keep K3896 (ninS ne3857 nin0)
     have f3903 := f3871.keep K3896
     have f3904 := f3872.keep K3896 (ninS ne3860 nin0)
     have f3905 := f3873.keep K3896 (ninS ne3860 nin0)
     have f3906 := f3874.keep K3896 (ninS ne3860 nin0)
     have f3907 := f3875.keep K3896 (ninS ne3860 nin0)
     have f3908 := f3876.keep K3896 (ninS ne3861 nin0)
     have f3909 := f3877.keep K3896
     have f3910 := f3878.keep K3896
     have f3911 := f3879.keep K3896 (ninS ne3862 nin0)
     have f3912 := f3880.keep K3896 (ninS ne3862 nin0)
     have f3913 := f3881.keep K3896 (ninS ne3862 nin0)
     have f3914 := f3882.keep K3896 (ninS ne3862 nin0)
     have f3915 := f3883.keep K3896
     have f3916 := f3884.keep K3896 (ninS ne3858 nin0)
     have f3917 := f3885.keep K3896 (ninS ne3858 nin0)
     have f3918 := f3886.keep K3896 (ninS ne3858 nin0)
     have f3919 := f3887.keep K3896 (ninS ne3858 nin0)
     have f3920 := f3888.keep K3896 (ninS ne3858 nin0)
     have f3921 := f3889.keep K3896 (ninS ne3858 nin0)
     have f3922 := f3890.keep K3896 (ninS ne3858 nin0)
     have f3923 := A3855.keep K3896
     have Old3924 := Old3891.keep K3896 (allS ge3863 all0)
     have Kp3925 : Keep h0 T3896.heap [] := Kp3893.trans K3896 (allS (Or.inr (Nat.le_trans KJ.1 (Nat.le_of_eq g3855.symm))) all0)
     have Z3926 := Nat.le_trans Z3892 K3896.1
     have hk3927 := Nat.le_trans hk3865 K3896.1
     refine Rch.st (fun _ k => st3896.trans k) ?_
     show Rch p e below T3896 (mkF m 140 #[vI nbits, vI fbits, vI dbits, vI mode, vI lb, vI dep, vR ra_3065, vR ra_3073, vR a3793, vR ra_3812, vR va, .val fv, U, U] [(.ref a3855), (.ref va)]) _
     obtain ⟨cq3928, kq3928, q3928a, q3928b, q3928c⟩ := isOf hZ3793 (rfl : T3896.heap = T3896.heap) f3910
     obtain ⟨_, _, ⟨T3928, L3928, k3928, n3928⟩, -, X3928, hSx3928, hgx3928, ⟨Lc3928, hQ3928, l3928, y3928, z3928⟩, st3928⟩ := X3896.virtualBackS hx (y := y_58) (z := y_58) hown3793 (mvT hZ3793 (wi hw 123 rfl)) (mvT hZ3793 (wi hw 124 rfl)) (notFace_of_selects (args := #[]) (mvT hZ3793 (wi hw 126 rfl))) (mvT hZ3793 (wi hw 126 rfl)) (mvT hZ3793 (wi hw 125 rfl)) (by decide) (backOfV (PV := fun vm => IB Z vm ([""] : List String)) (W := 0) (rm_af_e l Z a0 hw [] G1 G6 va ra_3065 a3855 a3793 b3793 kc3793 ([]) (.int 0) ra_3812 t_3812 kt_3812 x0_3812 x1_3812 0 0 m1 T3896.heap h0.size Z3926 (O2) (P5) (O6) f3910 f3912 f3923 fq3896_1 f3899 f3900 f3901 f3902 f3911 fq3896_0 f3903 f3904 f3905 f3906 f3907 f3908 f3909 f3915 f3916 f3917 f3918 f3919 f3920 f3921 f3922 (gm1) (ge3820) (ne3814) Old3924) hZ3793 (fun vm hW => own_ib (s := s.setVm T3793.vm) I3793 hW) (wi hw 127 rfl) (wi hw 36 rfl) (by decide) (by decide)) q3928a q3928c (g := (mkF m 140 #[vI nbits, vI fbits, vI dbits, vI mode, vI lb, vI dep, vR ra_3065, vR ra_3073, vR a3793, vR ra_3812, vR va, .val fv, U, U] [(.ref a3855), (.ref va)])) rfl (by rw [hml]; rfl) (Steps.refl _) (argsL := [(.ref a3855)]) (rest := []) (lenOf pd__Lcom_example_mandoline_mandoline_Place_Field__Lcom_example_mandoline_mandoline_Variable_ rfl) rfl (by show 2 * 0 + _ ≤ _; exact Nat.le_of_eq rfl) (hb hby at_140) (fun _ _ => ⟨rfl, (rfl : T3896.heap = T3896.heap), (by decide : 14 + 5 ≤ _), (by decide : 48 + 42 ≤ _)⟩)
     dsimp only [Pt.U, Pt.locs, Pt.cells, Pt.slots] at X3928 l3928 y3928 z3928 st3928 hQ3928 hSx3928 hgx3928
     subst l3928 y3928 z3928
     have hS3928 := foldS hS3793 (by rw [(rfl : T3896.heap = T3896.heap)]; exact hk3927) hSx3928 hgx3928
     have hk3928 : T3928.heap.size ≤ T3928.heap.size := Nat.le_refl _
     have hZ3928 : Z.Warmed39 (s.setVm T3928.vm).vm := State.Warmed39.trans (t := s.setVm T3793.vm) hZ3793 hSx3928.1
     have hown3928 : (s.setVm T3928.vm).vm.findClass "com/example/mandoline/mandoline/VariableFunctionPinLaw" = some m.cls := by rw [show (s.setVm T3928.vm).vm = T3928.vm from rfl, hSx3928.1.alike.findClass]; exact hown3793
     have X3928w : Stand p l e room_1 (s.setVm T3928.vm) m _ below meth c T3928 _ _ _ := X3928
     obtain ⟨nv_3928, m2_3928, x2_3928, y2_3928, rfl, NQ3928, K3928, pq3928_0, pq3928_1, fq3928_0, fq3928_1, fq3928_2, fq3928_3, fq3928_4, fq3928_5, fq3928_6, fq3928_7, fq3928_8, fq3928_9, fq3928_10, fq3928_11, fq3928_12, fq3928_13, fq3928_14, fq3928_15, IQ3928⟩ := hQ3928
     have N3929 := Fr.app N3897 NQ3928
     have ne3935 := nlt f3903.lt pq3928_0
     have ne3946 := nlt f3910.lt pq3928_1
     have ge3947 : h0.size ≤ m2_3928 := Nat.le_trans Z3926 pq3928_1
     have f3948 := f3898.keep K3928
     have f3949 := f3899.keep K3928
     have ne3950 : a3793 ≠ m1 := ne_exa f3899 f3915 (by decide)
     have f3951 := f3900.keep K3928 (ninS ne3950 (ninS ne3814 nin0))
     have f3952 := f3901.keep K3928 (ninS ne3950 (ninS ne3814 nin0))
     have ne3953 : b3793 ≠ m1 := Ne.symm (Exa.neArv f3915 f3902 (wi hw 45 rfl))
     have f3954 := f3902.keep K3928 (ninS ne3953 (ninS ne3815 nin0))
     have f3955 := f3903.keep K3928
     have ne3956 : t_3812 ≠ ra_3812 := ne_exa f3909 f3903 (by decide)
     have ne3957 : t_3812 ≠ m1 := ne_exa f3909 f3915 (by decide)
     have f3958 := f3908.keep K3928 (ninS ne3957 (ninS ne3956 nin0))
     have f3959 := f3909.keep K3928
     have f3960 := f3910.keep K3928
     have ne3961 : va ≠ ra_3812 := ne_exa f3910 f3903 (by decide)
     have ne3962 : va ≠ m1 := ne_exa f3910 f3915 (by decide)
     have f3965 := f3913.keep K3928 (ninS ne3962 (ninS ne3961 nin0))
     have f3966 := f3914.keep K3928 (ninS ne3962 (ninS ne3961 nin0))
     have Old3971 := Old3924.keep K3928 (allS gm1 (allS ge3820 all0))
     have Kp3972 : Keep h0 T3928.heap [] := Kp3925.trans K3928 (allS (Or.inr gm1) (allS (Or.inr (Nat.le_trans Kp3811.1 pq3812_0)) all0))
     have Z3973 := Nat.le_trans Z3926 K3928.1
     refine Rch.st (fun _ k => st3928.trans k) ?_
     show Rch p e below T3928 (mkF m 143 #[vI nbits, vI fbits, vI dbits, vI mode, vI lb, vI dep, vR ra_3065, vR ra_3073, vR a3793, vR ra_3812, vR va, .val fv, U, U] [(.ref nv_3928)]) _
     refine w_astore (pc' := 145) (l' := #[vI nbits, vI fbits, vI dbits, vI mode, vI lb, vI dep, vR ra_3065, vR ra_3073, vR a3793, vR ra_3812, vR va, .val fv, vR nv_3928, U]) X3928w hx hby at_143 rfl rfl rfl ?_
     refine w_aload (pc' := 147) X3928w hx hby at_145 rfl hfv rfl ?_
     refine w_aload (pc' := 149) X3928w hx hby at_147 rfl rfl rfl ?_
     obtain ⟨cq3974, kq3974, q3974a, q3974b, q3974c⟩ := isOf hZ3928 (rfl : T3928.heap = T3928.heap) fq3928_0
     obtain ⟨_, _, ⟨T3974, L3974, k3974, n3974⟩, -, X3974, ⟨Lc3974, hQ3974, l3974, y3974, z3974⟩, st3974⟩ := X3928w.virtualBack hx (y := y_62) (z := y_62) hown3928 (mvT hZ3928 (wi hw 88 rfl)) (mvT hZ3928 (wi hw 89 rfl)) (notFace_of_selects (args := #[]) (mvT hZ3928 (wi hw 91 rfl))) (mvT hZ3928 (wi hw 91 rfl)) (mvT hZ3928 (wi hw 90 rfl)) (by decide) (backOf (W := 1) (rm_fn1 l Z a0 hw [] nv_3928 va fv T3928.heap h0.size Z3973 fq3928_0 fq3928_3 f3960 f3966 f3965 (hfv)) hZ3928 (wi hw 92 rfl) (wi hw 36 rfl) (by decide) (by decide)) q3974a q3974c (g := (mkF m 149 #[vI nbits, vI fbits, vI dbits, vI mode, vI lb, vI dep, vR ra_3065, vR ra_3073, vR a3793, vR ra_3812, vR va, .val fv, vR nv_3928, U] [(.ref nv_3928), fv])) rfl (by rw [hml]; rfl) (Steps.refl _) (argsL := []) (rest := [fv]) (lenOf pd___Ljava_lang_String_ rfl) rfl (by show 2 * 0 + _ ≤ _; simp [XT.cat1 hfv]) (hb hby at_149) (fun _ _ => ⟨rfl, (rfl : T3928.heap = T3928.heap), (by decide : 19 + 0 ≤ _), (by decide : 90 + 0 ≤ _)⟩)
     dsimp only [Pt.U, Pt.locs, Pt.cells, Pt.slots] at X3974 l3974 y3974 z3974 st3974 hQ3974
     subst l3974 y3974 z3974
     obtain ⟨rfl, NQ3974, K3974⟩ := hQ3974
     have N3975 := Fr.app N3929 NQ3974
     refine Rch.st (fun _ k => st3974.trans k) ?_
     show Rch p e below T3974 (mkF m 152 #[vI nbits, vI fbits, vI dbits, vI mode, vI lb, vI dep, vR ra_3065, vR ra_3073, vR a3793, vR ra_3812, vR va, .val fv, vR nv_3928, U] [fv, fv]) _
     obtain ⟨_, _, ⟨T3976, L3976, k3976, n3976⟩, -, X3976, ⟨Lc3976, hQ3976, l3976, y3976, z3976⟩, st3976⟩ := Jvm.LawKit.callS X3974 hx (y := y_31) hown3928 (mvT hZ3928 (wi hw 93 rfl)) (mvT hZ3928 (wi hw 94 rfl)) (mvT hZ3928 (wi hw 2 rfl)) (mvT hZ3928 (wi hw 95 rfl)) (by decide) (backOf (W := 0) (rm_sm l Z a0 hw [] fv ra_3073 T3928.heap h0.size Z3973 (hfv) (hcv) f3948) hZ3928 (wi hw 95 rfl) (wi hw 2 rfl) (by decide) (by decide)) (g := (mkF m 152 #[vI nbits, vI fbits, vI dbits, vI mode, vI lb, vI dep, vR ra_3065, vR ra_3073, vR a3793, vR ra_3812, vR va, .val fv, vR nv_3928, U] [fv, fv])) rfl (by rw [hml]; rfl) (argsL := [fv, fv]) (rest := []) (lenOf pd__Ljava_lang_String_Ljava_lang_String__Z rfl) rfl (by show 2 * 0 + _ ≤ _; exact Nat.le_of_eq rfl) (hb hby at_152) (fun _ _ => ⟨rfl, K3974, (by decide : 19 + 0 ≤ _), (by decide : 90 + 0 ≤ _)⟩)
     dsimp only [Pt.U, Pt.locs, Pt.cells, Pt.slots] at X3976 l3976 y3976 z3976 st3976 hQ3976
     subst l3976 y3976 z3976
     obtain ⟨rfl, NQ3976, K3976⟩ := hQ3976
     have N3977 := Fr.app N3975 NQ3976
     refine Rch.st (fun _ k => st3976 _ k) ?_
     show Rch p e below T3976 (mkF m 155 #[vI nbits, vI fbits, vI dbits, vI mode, vI lb, vI dep, vR ra_3065, vR ra_3073, vR a3793, vR ra_3812, vR va, .val fv, vR nv_3928, U] [(.int 1)]) _
     refine w_ifYes (pc' := 160) X3976 hx hby at_155 (XT.i0_ne_t (by decide)) (by decide) ?_
     refine w_iload (pc' := 162) X3976 hx hby at_160 rfl rfl ?_
     refine w_iconst (pc' := 163) (v := 1) X3976 hx hby at_162 rfl rfl ?_
     by_cases c3978 : dep = (1 : Int32)
     ·skip
      refine w_icmpNo (pc' := 166) X3976 hx hby at_163 (XT.ii_ne_f (c3978)) rfl ?_
      refine w_aload (pc' := 168) X3976 hx hby at_166 rfl hfv rfl ?_
      refine w_aload (pc' := 170) X3976 hx hby at_168 rfl rfl rfl ?_
      obtain ⟨cq3979, kq3979, q3979a, q3979b, q3979c⟩ := isOf hZ3928 K3976 f3960
      obtain ⟨_, _, ⟨T3979, L3979, k3979, n3979⟩, -, X3979, ⟨Lc3979, hQ3979, l3979, y3979, z3979⟩, st3979⟩ := X3976.virtualBack hx (y := y_62) (z := y_62) hown3928 (mvT hZ3928 (wi hw 88 rfl)) (mvT hZ3928 (wi hw 89 rfl)) (notFace_of_selects (args := #[]) (mvT hZ3928 (wi hw 91 rfl))) (mvT hZ3928 (wi hw 91 rfl)) (mvT hZ3928 (wi hw 90 rfl)) (by decide) (backOf (W := 1) (rm_fn0 l Z a0 hw [] va fv T3928.heap h0.size Z3973 f3960 f3966 f3965 (hfv)) hZ3928 (wi hw 92 rfl) (wi hw 36 rfl) (by decide) (by decide)) q3979a q3979c (g := (mkF m 170 #[vI nbits, vI fbits, vI dbits, vI mode, vI lb, vI dep, vR ra_3065, vR ra_3073, vR a3793, vR ra_3812, vR va, .val fv, vR nv_3928, U] [(.ref va), fv])) rfl (by rw [hml]; rfl) (Steps.refl _) (argsL := []) (rest := [fv]) (lenOf pd___Ljava_lang_String_ rfl) rfl (by show 2 * 0 + _ ≤ _; simp [XT.cat1 hfv]) (hb hby at_170) (fun _ _ => ⟨rfl, K3976, (by decide : 19 + 0 ≤ _), (by decide : 90 + 0 ≤ _)⟩)
      dsimp only [Pt.U, Pt.locs, Pt.cells, Pt.slots] at X3979 l3979 y3979 z3979 st3979 hQ3979
      subst l3979 y3979 z3979
      obtain ⟨rfl, NQ3979, K3979⟩ := hQ3979
      have N3980 := Fr.app N3977 NQ3979
      refine Rch.st (fun _ k => st3979.trans k) ?_
      show Rch p e below T3979 (mkF m 173 #[vI nbits, vI fbits, vI dbits, vI mode, vI lb, vI dep, vR ra_3065, vR ra_3073, vR a3793, vR ra_3812, vR va, .val fv, vR nv_3928, U] [fv, fv]) _
      obtain ⟨_, _, ⟨T3981, L3981, k3981, n3981⟩, -, X3981, ⟨Lc3981, hQ3981, l3981, y3981, z3981⟩, st3981⟩ := Jvm.LawKit.callS X3979 hx (y := y_31) hown3928 (mvT hZ3928 (wi hw 93 rfl)) (mvT hZ3928 (wi hw 94 rfl)) (mvT hZ3928 (wi hw 2 rfl)) (mvT hZ3928 (wi hw 95 rfl)) (by decide) (backOf (W := 0) (rm_sm l Z a0 hw [] fv ra_3073 T3928.heap h0.size Z3973 (hfv) (hcv) f3948) hZ3928 (wi hw 95 rfl) (wi hw 2 rfl) (by decide) (by decide)) (g := (mkF m 173 #[vI nbits, vI fbits, vI dbits, vI mode, vI lb, vI dep, vR ra_3065, vR ra_3073, vR a3793, vR ra_3812, vR va, .val fv, vR nv_3928, U] [fv, fv])) rfl (by rw [hml]; rfl) (argsL := [fv, fv]) (rest := []) (lenOf pd__Ljava_lang_String_Ljava_lang_String__Z rfl) rfl (by show 2 * 0 + _ ≤ _; exact Nat.le_of_eq rfl) (hb hby at_173) (fun _ _ => ⟨rfl, K3979, (by decide : 19 + 0 ≤ _), (by decide : 90 + 0 ≤ _)⟩)
      dsimp only [Pt.U, Pt.locs, Pt.cells, Pt.slots] at X3981 l3981 y3981 z3981 st3981 hQ3981
      subst l3981 y3981 z3981
      obtain ⟨rfl, NQ3981, K3981⟩ := hQ3981
      have N3982 := Fr.app N3980 NQ3981
      refine Rch.st (fun _ k => st3981 _ k) ?_
      show Rch p e below T3981 (mkF m 176 #[vI nbits, vI fbits, vI dbits, vI mode, vI lb, vI dep, vR ra_3065, vR ra_3073, vR a3793, vR ra_3812, vR va, .val fv, vR nv_3928, U] [(.int 1)]) _
      exact Rch.retVW X3981 hx hS3928 (by rw [K3981]; exact hk3928) Bd.returns rfl (Or.inl ⟨rfl, by simp, _, rfl⟩) (hb hby at_176) (by rw [K3981]; exact ⟨rfl, (own_Fr Z0 N3982), Kp3972, own_ib_mono (own_ib (s := s.setVm T3928.vm) IQ3928 X3981.warmed) (by decide)⟩) (by decide) (by decide)
     ·skip
      refine w_icmpYes (pc' := 177) X3976 hx hby at_163 (XT.ii_ne_t (c3978)) (by decide) ?_
      refine w_aload (pc' := 179) X3976 hx hby at_177 rfl rfl rfl ?_
      obtain ⟨T3983, h3983, X3983, e3983, E3983, A3983, D3983, -, st3983⟩ := newO X3976 hx hZ3928 hown3928 (wi hw 107 rfl) (wi hw 108 rfl) (wi hw 109 rfl) K3976 (g := (mkF m 179 #[vI nbits, vI fbits, vI dbits, vI mode, vI lb, vI dep, vR ra_3065, vR ra_3073, vR a3793, vR ra_3812, vR va, .val fv, vR nv_3928, U] [(.ref nv_3928)])) rfl (hb hby at_179) (by decide) (by decide)
      obtain ⟨a3983, g3983⟩ : ∃ z, z = T3928.heap.size := ⟨_, rfl⟩
      rw [← g3983] at A3983 D3983 st3983
      have ne3984 : a3793 ≠ a3983 := by rw [g3983]; exact Nat.ne_of_lt f3949.lt
      have ne3985 : b3793 ≠ a3983 := by rw [g3983]; exact Nat.ne_of_lt f3954.lt
      have ne3986 : m2_3928 ≠ a3983 := by rw [g3983]; exact Nat.ne_of_lt fq3928_4.lt
      have ne3987 : nv_3928 ≠ a3983 := by rw [g3983]; exact Nat.ne_of_lt fq3928_0.lt
      have ne3989 : ra_3812 ≠ a3983 := by rw [g3983]; exact Nat.ne_of_lt f3955.lt
      have ne3990 : t_3812 ≠ a3983 := by rw [g3983]; exact Nat.ne_of_lt f3958.lt
      have ne3991 : va ≠ a3983 := by rw [g3983]; exact Nat.ne_of_lt f3960.lt
      have ge3992 : h0.size ≤ a3983 := Nat.le_trans Z3973 (Nat.le_of_eq g3983.symm)
      have hk3994 := Nat.le_trans hk3928 E3983.1
      have f3995 := f3948.ext E3983
      have f3996 := f3949.ext E3983
      have f3997 := f3951.ext E3983
      have f3998 := f3952.ext E3983
      have f3999 := f3954.ext E3983
      have f4000 := f3955.ext E3983
      have f4001 := f3958.ext E3983
      have f4002 := f3959.ext E3983
      have f4003 := f3960.ext E3983
      have f4006 := f3965.ext E3983
      have f4007 := f3966.ext E3983
      have f4008 := fq3928_0.ext E3983
      have f4009 := fq3928_1.ext E3983
      have f4010 := fq3928_2.ext E3983
      have f4011 := fq3928_3.ext E3983
      have f4012 := fq3928_4.ext E3983
      have f4013 := fq3928_5.ext E3983
      have f4014 := fq3928_6.ext E3983
      have f4015 := fq3928_7.ext E3983
      have f4016 := fq3928_8.ext E3983
      have f4017 := fq3928_9.ext E3983
      have f4018 := fq3928_10.ext E3983
      have f4019 := fq3928_11.ext E3983
      have f4020 := fq3928_12.ext E3983
      have f4021 := fq3928_13.ext E3983
      have f4022 := fq3928_14.ext E3983
      have f4023 := fq3928_15.ext E3983
      have Old4024 := Old3971.ext E3983
      have Z4025 := Nat.le_trans Z3973 E3983.1
      have Kp4026 : Keep h0 h3983 [] := Kp3972.ext E3983
      have f4027 : Fld Z h3983 a3983 "com/example/mandoline/mandoline/Place$Field" "key" "Ljava/lang/String;" .null := D3983 (Or.inr (wi hw 120 rfl)) (ty := (.object "java/lang/String")) (by decide)
      have f4028 : Fld Z h3983 a3983 "com/example/mandoline/mandoline/Place$Field" "name" "Ljava/lang/String;" .null := D3983 (Or.inr (wi hw 122 rfl)) (ty := (.object "java/lang/String")) (by decide)
      refine Rch.st (fun _ k => st3983 _ k) ?_
      show Rch p e below T3983 (mkF m 182 #[vI nbits, vI fbits, vI dbits, vI mode, vI lb, vI dep, vR ra_3065, vR ra_3073, vR a3793, vR ra_3812, vR va, .val fv, vR nv_3928, U] [(.ref a3983), (.ref nv_3928)]) _
      refine w_dup (pc' := 183) X3983 hx hby at_182 rfl rfl ?_
      refine w_aload (pc' := 185) X3983 hx hby at_183 rfl rfl rfl ?_
      refine w_aload (pc' := 187) X3983 hx hby at_185 rfl rfl rfl ?_
      obtain ⟨_, _, ⟨T4029, L4029, k4029, n4029⟩, -, X4029, ⟨Lc4029, hQ4029, l4029, y4029, z4029⟩, st4029⟩ := X3983.specialBack hx (y := y_38) rfl hown3928 (mvT hZ3928 (wi hw 110 rfl)) (mvT hZ3928 (wi hw 111 rfl)) (mvT hZ3928 (wi hw 112 rfl)) (by decide) (backOf (W := 2) (rm_fd l Z a0 hw [] a3983 ra_3812 a3793 h3983 h0.size Z4025 A3983 f4027 f4028 (ge3992)) hZ3928 (wi hw 112 rfl) (wi hw 109 rfl) (by decide) (by decide)) (g := (mkF m 187 #[vI nbits, vI fbits, vI dbits, vI mode, vI lb, vI dep, vR ra_3065, vR ra_3073, vR a3793, vR ra_3812, vR va, .val fv, vR nv_3928, U] [(.ref a3793), (.ref ra_3812), (.ref a3983), (.ref a3983), (.ref nv_3928)])) rfl (by rw [hml]; rfl) (Steps.refl _) (a := a3983) (argsL := [(.ref ra_3812), (.ref a3793)]) (rest := [(.ref a3983), (.ref nv_3928)]) (lenOf pd__Ljava_lang_String_Ljava_lang_String__V rfl) rfl (by show 2 * 0 + _ ≤ _; exact Nat.le_of_eq rfl) (hb hby at_187) (fun _ _ => ⟨rfl, e3983, (by decide : 20 + 0 ≤ _), (by decide : 92 + 0 ≤ _)⟩)
      dsimp only [Pt.U, Pt.locs, Pt.cells, Pt.slots] at X4029 l4029 y4029 z4029 st4029 hQ4029
      subst l4029 y4029 z4029
      obtain ⟨rfl, NQ4029, K4029, fq4029_0, fq4029_1⟩ := hQ4029
      have N4030 := Fr.app N3977 NQ4029
      have f4031 := f3995.keep K4029
      have f4032 := f3996.keep K4029
      have f4033 := f3997.keep K4029 (ninS ne3984 nin0)
      have f4034 := f3998.keep K4029 (ninS ne3984 nin0)
      have f4035 := f3999.keep K4029 (ninS ne3985 nin0)
      have f4036 := f4000.keep K4029
      have f4037 := f4001.keep K4029 (ninS ne3990 nin0)
      have f4038 := f4002.keep K4029
      have f4039 := f4003.keep K4029
      have f4042 := f4006.keep K4029 (ninS ne3991 nin0)
      have f4043 := f4007.keep K4029 (ninS ne3991 nin0)
      have f4044 := f4008.keep K4029
      have f4045 := f4009.keep K4029 (ninS ne3987 nin0)
      have f4046 := f4010.keep K4029 (ninS ne3987 nin0)
      have f4047 := f4011.keep K4029 (ninS ne3987 nin0)
      have f4048 := f4012.keep K4029
      have f4049 := f4013.keep K4029 (ninS ne3986 nin0)
      have f4050 := f4014.keep K4029 (ninS ne3986 nin0)
      have f4051 := f4015.keep K4029 (ninS ne3986 nin0)
      have f4052 := f4016.keep K4029 (ninS ne3986 nin0)
      have f4053 := f4017.keep K4029 (ninS ne3986 nin0)
      have f4054 := f4018.keep K4029 (ninS ne3986 nin0)
      have f4055 := f4019.keep K4029 (ninS ne3986 nin0)
      have f4056 := f4020.keep K4029 (ninS ne3989 nin0)
      have f4057 := f4021.keep K4029 (ninS ne3989 nin0)
      have f4058 := f4022.keep K4029 (ninS ne3989 nin0)
      have f4059 := f4023.keep K4029 (ninS ne3989 nin0)
      have f4060 := A3983.keep K4029
      have Old4061 := Old4024.keep K4029 (allS ge3992 all0)
      have Kp4062 : Keep h0 T4029.heap [] := Kp4026.trans K4029 (allS (Or.inr (Nat.le_trans Kp3972.1 (Nat.le_of_eq g3983.symm))) all0)
      have Z4063 := Nat.le_trans Z4025 K4029.1
      have hk4064 := Nat.le_trans hk3994 K4029.1
      refine Rch.st (fun _ k => st4029.trans k) ?_
      show Rch p e below T4029 (mkF m 190 #[vI nbits, vI fbits, vI dbits, vI mode, vI lb, vI dep, vR ra_3065, vR ra_3073, vR a3793, vR ra_3812, vR va, .val fv, vR nv_3928, U] [(.ref a3983), (.ref nv_3928)]) _
      obtain ⟨cq4065, kq4065, q4065a, q4065b, q4065c⟩ := isOf hZ3928 (rfl : T4029.heap = T4029.heap) f4044
      obtain ⟨_, _, ⟨T4065, L4065, k4065, n4065⟩, -, X4065, hSx4065, hgx4065, ⟨Lc4065, hQ4065, l4065, y4065, z4065⟩, st4065⟩ := X4029.virtualBackS hx (y := y_58) (z := y_58) hown3928 (mvT hZ3928 (wi hw 123 rfl)) (mvT hZ3928 (wi hw 124 rfl)) (notFace_of_selects (args := #[]) (mvT hZ3928 (wi hw 126 rfl))) (mvT hZ3928 (wi hw 126 rfl)) (mvT hZ3928 (wi hw 125 rfl)) (by decide) (backOfV (PV := fun vm => IB Z vm ([""] : List String)) (W := 0) (rm_af_e l Z a0 hw [] G1 G6 nv_3928 ra_3065 a3983 a3793 b3793 kc3793 ([]) (.int 0) ra_3812 t_3812 kt_3812 x0_3812 x1_3812 x2_3928 y2_3928 m2_3928 T4029.heap h0.size Z4063 (O2) (P5) (O6) f4044 f4046 f4060 fq4029_1 f4032 f4033 f4034 f4035 f4045 fq4029_0 f4036 f4056 f4057 f4058 f4059 f4037 f4038 f4048 f4049 f4050 f4051 f4052 f4053 f4054 f4055 (ge3947) (ge3820) (ne3814) Old4061) hZ3928 (fun vm hW => own_ib (s := s.setVm T3928.vm) IQ3928 hW) (wi hw 127 rfl) (wi hw 36 rfl) (by decide) (by decide)) q4065a q4065c (g := (mkF m 190 #[vI nbits, vI fbits, vI dbits, vI mode, vI lb, vI dep, vR ra_3065, vR ra_3073, vR a3793, vR ra_3812, vR va, .val fv, vR nv_3928, U] [(.ref a3983), (.ref nv_3928)])) rfl (by rw [hml]; rfl) (Steps.refl _) (argsL := [(.ref a3983)]) (rest := []) (lenOf pd__Lcom_example_mandoline_mandoline_Place_Field__Lcom_example_mandoline_mandoline_Variable_ rfl) rfl (by show 2 * 0 + _ ≤ _; exact Nat.le_of_eq rfl) (hb hby at_190) (fun _ _ => ⟨rfl, (rfl : T4029.heap = T4029.heap), (by decide : 20 + 5 ≤ _), (by decide : 92 + 42 ≤ _)⟩)
      dsimp only [Pt.U, Pt.locs, Pt.cells, Pt.slots] at X4065 l4065 y4065 z4065 st4065 hQ4065 hSx4065 hgx4065
      subst l4065 y4065 z4065
      have hS4065 := foldS hS3928 (by rw [(rfl : T4029.heap = T4029.heap)]; exact hk4064) hSx4065 hgx4065
      have hk4065 : T4065.heap.size ≤ T4065.heap.size := Nat.le_refl _
      have hZ4065 : Z.Warmed39 (s.setVm T4065.vm).vm := State.Warmed39.trans (t := s.setVm T3928.vm) hZ3928 hSx4065.1
      have hown4065 : (s.setVm T4065.vm).vm.findClass "com/example/mandoline/mandoline/VariableFunctionPinLaw" = some m.cls := by rw [show (s.setVm T4065.vm).vm = T4065.vm from rfl, hSx4065.1.alike.findClass]; exact hown3928
      have X4065w : Stand p l e room_1 (s.setVm T4065.vm) m _ below meth c T4065 _ _ _ := X4065
      obtain ⟨nv_4065, m2_4065, x2_4065, y2_4065, rfl, NQ4065, K4065, pq4065_0, pq4065_1, fq4065_0, fq4065_1, fq4065_2, fq4065_3, fq4065_4, fq4065_5, fq4065_6, fq4065_7, fq4065_8, fq4065_9, fq4065_10, fq4065_11, fq4065_12, fq4065_13, fq4065_14, fq4065_15, IQ4065⟩ := hQ4065
      have N4066 := Fr.app N4030 NQ4065
      have f4087 := f4031.keep K4065
      have f4095 := f4039.keep K4065
      have f4098 := f4042.keep K4065 (ninS ne3946 (ninS ne3961 nin0))
      have f4099 := f4043.keep K4065 (ninS ne3946 (ninS ne3961 nin0))
      have f4100 := f4044.keep K4065
      have ne4101 : nv_3928 ≠ m2_3928 := ne_exa f4044 f4048 (by decide)
      have f4104 := f4047.keep K4065 (ninS ne4101 (ninS (Ne.symm ne3935) nin0))
      have Kp4110 : Keep h0 T4065.heap [] := Kp4062.trans K4065 (allS (Or.inr (Nat.le_trans Kp3925.1 pq3928_1)) (allS (Or.inr (Nat.le_trans Kp3811.1 pq3812_0)) all0))
      have Z4111 := Nat.le_trans Z4063 K4065.1
      refine Rch.st (fun _ k => st4065.trans k) ?_
      show Rch p e below T4065 (mkF m 193 #[vI nbits, vI fbits, vI dbits, vI mode, vI lb, vI dep, vR ra_3065, vR ra_3073, vR a3793, vR ra_3812, vR va, .val fv, vR nv_3928, U] [(.ref nv_4065)]) _
      refine w_astore (pc' := 195) (l' := #[vI nbits, vI fbits, vI dbits, vI mode, vI lb, vI dep, vR ra_3065, vR ra_3073, vR a3793, vR ra_3812, vR va, .val fv, vR nv_3928, vR nv_4065]) X4065w hx hby at_193 rfl rfl rfl ?_
      refine w_aload (pc' := 197) X4065w hx hby at_195 rfl hfv rfl ?_
      refine w_aload (pc' := 199) X4065w hx hby at_197 rfl rfl rfl ?_
      obtain ⟨cq4112, kq4112, q4112a, q4112b, q4112c⟩ := isOf hZ4065 (rfl : T4065.heap = T4065.heap) fq4065_0
      obtain ⟨_, _, ⟨T4112, L4112, k4112, n4112⟩, -, X4112, ⟨Lc4112, hQ4112, l4112, y4112, z4112⟩, st4112⟩ := X4065w.virtualBack hx (y := y_62) (z := y_62) hown4065 (mvT hZ4065 (wi hw 88 rfl)) (mvT hZ4065 (wi hw 89 rfl)) (notFace_of_selects (args := #[]) (mvT hZ4065 (wi hw 91 rfl))) (mvT hZ4065 (wi hw 91 rfl)) (mvT hZ4065 (wi hw 90 rfl)) (by decide) (backOf (W := 1) (rm_fn2 l Z a0 hw [] nv_4065 nv_3928 va fv T4065.heap h0.size Z4111 fq4065_0 fq4065_3 f4100 f4104 f4095 f4099 f4098 (hfv)) hZ4065 (wi hw 92 rfl) (wi hw 36 rfl) (by decide) (by decide)) q4112a q4112c (g := (mkF m 199 #[vI nbits, vI fbits, vI dbits, vI mode, vI lb, vI dep, vR ra_3065, vR ra_3073, vR a3793, vR ra_3812, vR va, .val fv, vR nv_3928, vR nv_4065] [(.ref nv_4065), fv])) rfl (by rw [hml]; rfl) (Steps.refl _) (argsL := []) (rest := [fv]) (lenOf pd___Ljava_lang_String_ rfl) rfl (by show 2 * 0 + _ ≤ _; simp [XT.cat1 hfv]) (hb hby at_199) (fun _ _ => ⟨rfl, (rfl : T4065.heap = T4065.heap), (by decide : 25 + 0 ≤ _), (by decide : 134 + 0 ≤ _)⟩)
      dsimp only [Pt.U, Pt.locs, Pt.cells, Pt.slots] at X4112 l4112 y4112 z4112 st4112 hQ4112
      subst l4112 y4112 z4112
      obtain ⟨rfl, NQ4112, K4112⟩ := hQ4112
      have N4113 := Fr.app N4066 NQ4112
      refine Rch.st (fun _ k => st4112.trans k) ?_
      show Rch p e below T4112 (mkF m 202 #[vI nbits, vI fbits, vI dbits, vI mode, vI lb, vI dep, vR ra_3065, vR ra_3073, vR a3793, vR ra_3812, vR va, .val fv, vR nv_3928, vR nv_4065] [fv, fv]) _
      obtain ⟨_, _, ⟨T4114, L4114, k4114, n4114⟩, -, X4114, ⟨Lc4114, hQ4114, l4114, y4114, z4114⟩, st4114⟩ := Jvm.LawKit.callS X4112 hx (y := y_31) hown4065 (mvT hZ4065 (wi hw 93 rfl)) (mvT hZ4065 (wi hw 94 rfl)) (mvT hZ4065 (wi hw 2 rfl)) (mvT hZ4065 (wi hw 95 rfl)) (by decide) (backOf (W := 0) (rm_sm l Z a0 hw [] fv ra_3073 T4065.heap h0.size Z4111 (hfv) (hcv) f4087) hZ4065 (wi hw 95 rfl) (wi hw 2 rfl) (by decide) (by decide)) (g := (mkF m 202 #[vI nbits, vI fbits, vI dbits, vI mode, vI lb, vI dep, vR ra_3065, vR ra_3073, vR a3793, vR ra_3812, vR va, .val fv, vR nv_3928, vR nv_4065] [fv, fv])) rfl (by rw [hml]; rfl) (argsL := [fv, fv]) (rest := []) (lenOf pd__Ljava_lang_String_Ljava_lang_String__Z rfl) rfl (by show 2 * 0 + _ ≤ _; exact Nat.le_of_eq rfl) (hb hby at_202) (fun _ _ => ⟨rfl, K4112, (by decide : 25 + 0 ≤ _), (by decide : 134 + 0 ≤ _)⟩)
      dsimp only [Pt.U, Pt.locs, Pt.cells, Pt.slots] at X4114 l4114 y4114 z4114 st4114 hQ4114
      subst l4114 y4114 z4114
      obtain ⟨rfl, NQ4114, K4114⟩ := hQ4114
      have N4115 := Fr.app N4113 NQ4114
      refine Rch.st (fun _ k => st4114 _ k) ?_
      show Rch p e below T4114 (mkF m 205 #[vI nbits, vI fbits, vI dbits, vI mode, vI lb, vI dep, vR ra_3065, vR ra_3073, vR a3793, vR ra_3812, vR va, .val fv, vR nv_3928, vR nv_4065] [(.int 1)]) _
      refine w_ifNo (pc' := 208) X4114 hx hby at_205 (XT.i0_eq_f (by decide)) rfl ?_
      refine w_aload (pc' := 210) X4114 hx hby at_208 rfl hfv rfl ?_
      refine w_aload (pc' := 212) X4114 hx hby at_210 rfl rfl rfl ?_
      obtain ⟨cq4116, kq4116, q4116a, q4116b, q4116c⟩ := isOf hZ4065 K4114 f4095
      obtain ⟨_, _, ⟨T4116, L4116, k4116, n4116⟩, -, X4116, ⟨Lc4116, hQ4116, l4116, y4116, z4116⟩, st4116⟩ := X4114.virtualBack hx (y := y_62) (z := y_62) hown4065 (mvT hZ4065 (wi hw 88 rfl)) (mvT hZ4065 (wi hw 89 rfl)) (notFace_of_selects (args := #[]) (mvT hZ4065 (wi hw 91 rfl))) (mvT hZ4065 (wi hw 91 rfl)) (mvT hZ4065 (wi hw 90 rfl)) (by decide) (backOf (W := 1) (rm_fn0 l Z a0 hw [] va fv T4065.heap h0.size Z4111 f4095 f4099 f4098 (hfv)) hZ4065 (wi hw 92 rfl) (wi hw 36 rfl) (by decide) (by decide)) q4116a q4116c (g := (mkF m 212 #[vI nbits, vI fbits, vI dbits, vI mode, vI lb, vI dep, vR ra_3065, vR ra_3073, vR a3793, vR ra_3812, vR va, .val fv, vR nv_3928, vR nv_4065] [(.ref va), fv])) rfl (by rw [hml]; rfl) (Steps.refl _) (argsL := []) (rest := [fv]) (lenOf pd___Ljava_lang_String_ rfl) rfl (by show 2 * 0 + _ ≤ _; simp [XT.cat1 hfv]) (hb hby at_212) (fun _ _ => ⟨rfl, K4114, (by decide : 25 + 0 ≤ _), (by decide : 134 + 0 ≤ _)⟩)
      dsimp only [Pt.U, Pt.locs, Pt.cells, Pt.slots] at X4116 l4116 y4116 z4116 st4116 hQ4116
      subst l4116 y4116 z4116
      obtain ⟨rfl, NQ4116, K4116⟩ := hQ4116
      have N4117 := Fr.app N4115 NQ4116
      refine Rch.st (fun _ k => st4116.trans k) ?_
      show Rch p e below T4116 (mkF m 215 #[vI nbits, vI fbits, vI dbits, vI mode, vI lb, vI dep, vR ra_3065, vR ra_3073, vR a3793, vR ra_3812, vR va, .val fv, vR nv_3928, vR nv_4065] [fv, fv]) _
      obtain ⟨_, _, ⟨T4118, L4118, k4118, n4118⟩, -, X4118, ⟨Lc4118, hQ4118, l4118, y4118, z4118⟩, st4118⟩ := Jvm.LawKit.callS X4116 hx (y := y_31) hown4065 (mvT hZ4065 (wi hw 93 rfl)) (mvT hZ4065 (wi hw 94 rfl)) (mvT hZ4065 (wi hw 2 rfl)) (mvT hZ4065 (wi hw 95 rfl)) (by decide) (backOf (W := 0) (rm_sm l Z a0 hw [] fv ra_3073 T4065.heap h0.size Z4111 (hfv) (hcv) f4087) hZ4065 (wi hw 95 rfl) (wi hw 2 rfl) (by decide) (by decide)) (g := (mkF m 215 #[vI nbits, vI fbits, vI dbits, vI mode, vI lb, vI dep, vR ra_3065, vR ra_3073, vR a3793, vR ra_3812, vR va, .val fv, vR nv_3928, vR nv_4065] [fv, fv])) rfl (by rw [hml]; rfl) (argsL := [fv, fv]) (rest := []) (lenOf pd__Ljava_lang_String_Ljava_lang_String__Z rfl) rfl (by show 2 * 0 + _ ≤ _; exact Nat.le_of_eq rfl) (hb hby at_215) (fun _ _ => ⟨rfl, K4116, (by decide : 25 + 0 ≤ _), (by decide : 134 + 0 ≤ _)⟩)
      dsimp only [Pt.U, Pt.locs, Pt.cells, Pt.slots] at X4118 l4118 y4118 z4118 st4118 hQ4118
      subst l4118 y4118 z4118
      obtain ⟨rfl, NQ4118, K4118⟩ := hQ4118
      have N4119 := Fr.app N4117 NQ4118
      refine Rch.st (fun _ k => st4118 _ k) ?_
      show Rch p e below T4118 (mkF m 218 #[vI nbits, vI fbits, vI dbits, vI mode, vI lb, vI dep, vR ra_3065, vR ra_3073, vR a3793, vR ra_3812, vR va, .val fv, vR nv_3928, vR nv_4065] [(.int 1)]) _
      refine w_ifNo (pc' := 221) X4118 hx hby at_218 (XT.i0_eq_f (by decide)) rfl ?_
      refine w_iconst (pc' := 222) (v := 1) X4118 hx hby at_221 rfl rfl ?_
      refine w_goto (pc' := 226) X4118 hx hby at_222 (by decide) ?_
      exact Rch.retVW X4118 hx hS4065 (by rw [K4118]; exact hk4065) Bd.returns rfl (Or.inl ⟨rfl, by simp, _, rfl⟩) (hb hby at_226) (by rw [K4118]; exact ⟨rfl, (own_Fr Z0 N4119), Kp4110, own_ib_mono (own_ib (s := s.setVm T4065.vm) IQ4065 X4118.warmed) (by decide)⟩) (by decide) (by decide)
   by_cases hlb : lb = 0
   ·skip
    refine w_ifYes (pc' := 80) X3812 hx hby at_62 (XT.i0_eq_t (hlb)) (by decide) ?_
    obtain ⟨T4120, h4120, X4120, e4120, E4120, A4120, D4120, -, st4120⟩ := newO X3812 hx hZ3793 hown3793 (wi hw 34 rfl) (wi hw 35 rfl) (wi hw 36 rfl) (rfl : T3812.heap = T3812.heap) (g := (mkF m 80 #[vI nbits, vI fbits, vI dbits, vI mode, vI lb, vI dep, vR ra_3065, vR ra_3073, vR a3793, vR ra_3812, U, U, U, U] [])) rfl (hb hby at_80) (by decide) (by decide)
    obtain ⟨a4120, g4120⟩ : ∃ z, z = T3812.heap.size := ⟨_, rfl⟩
    rw [← g4120] at A4120 D4120 st4120
    have ne4121 : a3793 ≠ a4120 := by rw [g4120]; exact Nat.ne_of_lt f3842.lt
    have ne4122 : b3793 ≠ a4120 := by rw [g4120]; exact Nat.ne_of_lt f3845.lt
    have ne4125 : ra_3812 ≠ a4120 := by rw [g4120]; exact Nat.ne_of_lt fq3812_0.lt
    have ne4128 : t_3812 ≠ a4120 := by rw [g4120]; exact Nat.ne_of_lt fq3812_5.lt
    have ge4129 : h0.size ≤ a4120 := Nat.le_trans Z3848 (Nat.le_of_eq g4120.symm)
    have hk4131 := Nat.le_trans hk3849 E4120.1
    have f4139 := f3835.ext E4120
    have f4146 := f3842.ext E4120
    have f4147 := f3843.ext E4120
    have f4148 := f3844.ext E4120
    have f4149 := f3845.ext E4120
    have f4150 := fq3812_0.ext E4120
    have f4151 := fq3812_1.ext E4120
    have f4152 := fq3812_2.ext E4120
    have f4153 := fq3812_3.ext E4120
    have f4154 := fq3812_4.ext E4120
    have f4155 := fq3812_5.ext E4120
    have f4156 := fq3812_6.ext E4120
    have Old4157 := Old3846.ext E4120
    have Z4158 := Nat.le_trans Z3848 E4120.1
    have Kp4159 : Keep h0 h4120 [] := Kp3847.ext E4120
    have f4160 : Fld Z h4120 a4120 "com/example/mandoline/mandoline/Variable" "fields" "Ljava/util/Map;" .null := D4120 (Or.inr (wi hw 71 rfl)) (ty := (.object "java/util/Map")) (by decide)
    have f4161 : Fld Z h4120 a4120 "com/example/mandoline/mandoline/Variable" "declarationNodes" "Ljava/util/List;" .null := D4120 (Or.inl (wi hw 79 rfl)) (ty := (.object "java/util/List")) (by decide)
    have f4162 : Fld Z h4120 a4120 "com/example/mandoline/mandoline/Variable" "name" "Ljava/lang/String;" .null := D4120 (Or.inr (wi hw 81 rfl)) (ty := (.object "java/lang/String")) (by decide)
    have f4163 : Fld Z h4120 a4120 "com/example/mandoline/mandoline/Variable" "declaringStatement" "Lcom/example/mandoline/mandoline/ClangNode;" .null := D4120 (Or.inr (wi hw 83 rfl)) (ty := (.object "com/example/mandoline/mandoline/ClangNode")) (by decide)
    have f4164 : Fld Z h4120 a4120 "com/example/mandoline/mandoline/Variable" "function" "Ljava/lang/String;" .null := D4120 (Or.inr (wi hw 85 rfl)) (ty := (.object "java/lang/String")) (by decide)
    have f4165 : Fld Z h4120 a4120 "com/example/mandoline/mandoline/Variable" "containing" "Lcom/example/mandoline/mandoline/Variable;" .null := D4120 (Or.inr (wi hw 87 rfl)) (ty := (.object "com/example/mandoline/mandoline/Variable")) (by decide)
    refine Rch.st (fun _ k => st4120 _ k) ?_
    show Rch p e below T4120 (mkF m 83 #[vI nbits, vI fbits, vI dbits, vI mode, vI lb, vI dep, vR ra_3065, vR ra_3073, vR a3793, vR ra_3812, U, U, U, U] [(.ref a4120)]) _
    refine w_dup (pc' := 84) X4120 hx hby at_83 rfl rfl ?_
    refine w_aload (pc' := 86) X4120 hx hby at_84 rfl rfl rfl ?_
    refine w_aconstNull (pc' := 87) X4120 hx hby at_86 rfl ?_
    obtain ⟨_, _, ⟨T4166, L4166, k4166, n4166⟩, -, X4166, ⟨Lc4166, hQ4166, l4166, y4166, z4166⟩, st4166⟩ := X4120.specialBack hx (y := y_61) rfl hown3793 (mvT hZ3793 (wi hw 104 rfl)) (mvT hZ3793 (wi hw 105 rfl)) (mvT hZ3793 (wi hw 106 rfl)) (by decide) (backOf (W := 1) (rm_v2 l Z a0 hw [] G6 a4120 ra_3065 h4120 h0.size Z4158 (O6) A4120 f4160 f4161 f4162 f4163 f4164 f4165 (ge4129) Old4157) hZ3793 (wi hw 106 rfl) (wi hw 36 rfl) (by decide) (by decide)) (g := (mkF m 87 #[vI nbits, vI fbits, vI dbits, vI mode, vI lb, vI dep, vR ra_3065, vR ra_3073, vR a3793, vR ra_3812, U, U, U, U] [.null, (.ref ra_3065), (.ref a4120), (.ref a4120)])) rfl (by rw [hml]; rfl) (Steps.refl _) (a := a4120) (argsL := [(.ref ra_3065), .null]) (rest := [(.ref a4120)]) (lenOf pd__Ljava_lang_String_Lcom_example_mandoline_mandoline_ClangNode__V rfl) rfl (by show 2 * 0 + _ ≤ _; exact Nat.le_of_eq rfl) (hb hby at_87) (fun _ _ => ⟨rfl, e4120, (by decide : 12 + 1 ≤ _), (by decide : 34 + 12 ≤ _)⟩)
    dsimp only [Pt.U, Pt.locs, Pt.cells, Pt.slots] at X4166 l4166 y4166 z4166 st4166 hQ4166
    subst l4166 y4166 z4166
    obtain ⟨m2_4166, rfl, NQ4166, K4166, pq4166_0, fq4166_0, fq4166_1, fq4166_2, fq4166_3, fq4166_4, fq4166_5, fq4166_6, fq4166_7, fq4166_8, fq4166_9, fq4166_10, fq4166_11, fq4166_12⟩ := hQ4166
    have N4167 := Fr.app N3813 NQ4166
    have f4185 := f4139.keep K4166
    have f4192 := f4146.keep K4166
    have f4193 := f4147.keep K4166 (ninS ne4121 nin0)
    have f4194 := f4148.keep K4166 (ninS ne4121 nin0)
    have f4195 := f4149.keep K4166 (ninS ne4122 nin0)
    have f4196 := f4150.keep K4166
    have f4197 := f4151.keep K4166 (ninS ne4125 nin0)
    have f4198 := f4152.keep K4166 (ninS ne4125 nin0)
    have f4199 := f4153.keep K4166 (ninS ne4125 nin0)
    have f4200 := f4154.keep K4166 (ninS ne4125 nin0)
    have f4201 := f4155.keep K4166 (ninS ne4128 nin0)
    have f4202 := f4156.keep K4166
    have f4203 := A4120.keep K4166
    have Old4204 := Old4157.keep K4166 (allS ge4129 all0)
    have Kp4205 : Keep h0 T4166.heap [] := Kp4159.trans K4166 (allS (Or.inr (Nat.le_trans Kp3847.1 (Nat.le_of_eq g4120.symm))) all0)
    have Z4206 := Nat.le_trans Z4158 K4166.1
    have hk4207 := Nat.le_trans hk4131 K4166.1
    refine Rch.st (fun _ k => st4166.trans k) ?_
    show Rch p e below T4166 (mkF m 90 #[vI nbits, vI fbits, vI dbits, vI mode, vI lb, vI dep, vR ra_3065, vR ra_3073, vR a3793, vR ra_3812, U, U, U, U] [(.ref a4120)]) _
    refine w_astore (pc' := 92) (l' := #[vI nbits, vI fbits, vI dbits, vI mode, vI lb, vI dep, vR ra_3065, vR ra_3073, vR a3793, vR ra_3812, vR a4120, U, U, U]) X4166 hx hby at_90 rfl rfl rfl ?_
    refine w_iload (pc' := 94) X4166 hx hby at_92 rfl rfl ?_
    refine w_ifYes (pc' := 102) X4166 hx hby at_94 (XT.i0_eq_t (hlb)) (by decide) ?_
    refine w_aconstNull (pc' := 103) X4166 hx hby at_102 rfl ?_
    refine w_astore (pc' := 105) (l' := #[vI nbits, vI fbits, vI dbits, vI mode, vI lb, vI dep, vR ra_3065, vR ra_3073, vR a3793, vR ra_3812, vR a4120, vN, U, U]) X4166 hx hby at_103 rfl rfl rfl ?_
    exact J _ _ _ a4120 m2_4166 .null X4166 (rfl : T4166.heap = T4166.heap) N4167 Old4204 Z4206 Kp4205 hk4207 f4185 f4192 f4193 f4194 f4195 f4196 f4197 f4198 f4199 f4200 f4201 f4202 f4203 fq4166_0 fq4166_1 fq4166_2 fq4166_3 fq4166_5 fq4166_6 fq4166_7 fq4166_8 fq4166_9 fq4166_10 fq4166_11 fq4166_12 (rfl) (Or.inl rfl) ((Nat.le_trans Kp4159.1 pq4166_0))
   ·skip
    refine w_ifNo (pc' := 65) X3812 hx hby at_62 (XT.i0_eq_f (hlb)) rfl ?_
    obtain ⟨T4208, h4208, X4208, e4208, E4208, A4208, D4208, -, st4208⟩ := newO X3812 hx hZ3793 hown3793 (wi hw 34 rfl) (wi hw 35 rfl) (wi hw 36 rfl) (rfl : T3812.heap = T3812.heap) (g := (mkF m 65 #[vI nbits, vI fbits, vI dbits, vI mode, vI lb, vI dep, vR ra_3065, vR ra_3073, vR a3793, vR ra_3812, U, U, U, U] [])) rfl (hb hby at_65) (by decide) (by decide)
    obtain ⟨a4208, g4208⟩ : ∃ z, z = T3812.heap.size := ⟨_, rfl⟩
    rw [← g4208] at A4208 D4208 st4208
    have ne4209 : a3793 ≠ a4208 := by rw [g4208]; exact Nat.ne_of_lt f3842.lt
    have ne4210 : b3793 ≠ a4208 := by rw [g4208]; exact Nat.ne_of_lt f3845.lt
    have ne4213 : ra_3812 ≠ a4208 := by rw [g4208]; exact Nat.ne_of_lt fq3812_0.lt
    have ne4216 : t_3812 ≠ a4208 := by rw [g4208]; exact Nat.ne_of_lt fq3812_5.lt
    have ge4217 : h0.size ≤ a4208 := Nat.le_trans Z3848 (Nat.le_of_eq g4208.symm)
    have hk4219 := Nat.le_trans hk3849 E4208.1
    have f4227 := f3835.ext E4208
    have f4234 := f3842.ext E4208
    have f4235 := f3843.ext E4208
    have f4236 := f3844.ext E4208
    have f4237 := f3845.ext E4208
    have f4238 := fq3812_0.ext E4208
    have f4239 := fq3812_1.ext E4208
    have f4240 := fq3812_2.ext E4208
    have f4241 := fq3812_3.ext E4208
    have f4242 := fq3812_4.ext E4208
    have f4243 := fq3812_5.ext E4208
    have f4244 := fq3812_6.ext E4208
    have Old4245 := Old3846.ext E4208
    have Z4246 := Nat.le_trans Z3848 E4208.1
    have Kp4247 : Keep h0 h4208 [] := Kp3847.ext E4208
    have f4248 : Fld Z h4208 a4208 "com/example/mandoline/mandoline/Variable" "fields" "Ljava/util/Map;" .null := D4208 (Or.inr (wi hw 71 rfl)) (ty := (.object "java/util/Map")) (by decide)
    have f4249 : Fld Z h4208 a4208 "com/example/mandoline/mandoline/Variable" "declarationNodes" "Ljava/util/List;" .null := D4208 (Or.inl (wi hw 79 rfl)) (ty := (.object "java/util/List")) (by decide)
    have f4250 : Fld Z h4208 a4208 "com/example/mandoline/mandoline/Variable" "name" "Ljava/lang/String;" .null := D4208 (Or.inr (wi hw 81 rfl)) (ty := (.object "java/lang/String")) (by decide)
    have f4251 : Fld Z h4208 a4208 "com/example/mandoline/mandoline/Variable" "declaringStatement" "Lcom/example/mandoline/mandoline/ClangNode;" .null := D4208 (Or.inr (wi hw 83 rfl)) (ty := (.object "com/example/mandoline/mandoline/ClangNode")) (by decide)
    have f4252 : Fld Z h4208 a4208 "com/example/mandoline/mandoline/Variable" "function" "Ljava/lang/String;" .null := D4208 (Or.inr (wi hw 85 rfl)) (ty := (.object "java/lang/String")) (by decide)
    have f4253 : Fld Z h4208 a4208 "com/example/mandoline/mandoline/Variable" "containing" "Lcom/example/mandoline/mandoline/Variable;" .null := D4208 (Or.inr (wi hw 87 rfl)) (ty := (.object "com/example/mandoline/mandoline/Variable")) (by decide)
    refine Rch.st (fun _ k => st4208 _ k) ?_
    show Rch p e below T4208 (mkF m 68 #[vI nbits, vI fbits, vI dbits, vI mode, vI lb, vI dep, vR ra_3065, vR ra_3073, vR a3793, vR ra_3812, U, U, U, U] [(.ref a4208)]) _
    refine w_dup (pc' := 69) X4208 hx hby at_68 rfl rfl ?_
    refine w_aload (pc' := 71) X4208 hx hby at_69 rfl rfl rfl ?_
    refine w_aconstNull (pc' := 72) X4208 hx hby at_71 rfl ?_
    refine w_aload (pc' := 74) X4208 hx hby at_72 rfl rfl rfl ?_
    obtain ⟨_, _, ⟨T4254, L4254, k4254, n4254⟩, -, X4254, ⟨Lc4254, hQ4254, l4254, y4254, z4254⟩, st4254⟩ := X4208.specialBack hx (y := y_60) rfl hown3793 (mvT hZ3793 (wi hw 37 rfl)) (mvT hZ3793 (wi hw 38 rfl)) (mvT hZ3793 (wi hw 39 rfl)) (by decide) (backOf (W := 1) (rm_v3 l Z a0 hw [] G6 a4208 ra_3065 (.ref ra_3073) h4208 h0.size Z4246 (O6) A4208 f4248 f4249 f4250 f4251 f4252 f4253 (ge4217) (rfl) Old4245) hZ3793 (wi hw 39 rfl) (wi hw 36 rfl) (by decide) (by decide)) (g := (mkF m 74 #[vI nbits, vI fbits, vI dbits, vI mode, vI lb, vI dep, vR ra_3065, vR ra_3073, vR a3793, vR ra_3812, U, U, U, U] [(.ref ra_3073), .null, (.ref ra_3065), (.ref a4208), (.ref a4208)])) rfl (by rw [hml]; rfl) (Steps.refl _) (a := a4208) (argsL := [(.ref ra_3065), .null, (.ref ra_3073)]) (rest := [(.ref a4208)]) (lenOf pd__Ljava_lang_String_Lcom_example_mandoline_mandoline_ClangNode_Ljava_lang_String__V rfl) rfl (by show 2 * 0 + _ ≤ _; exact Nat.le_of_eq rfl) (hb hby at_74) (fun _ _ => ⟨rfl, e4208, (by decide : 12 + 1 ≤ _), (by decide : 34 + 12 ≤ _)⟩)
    dsimp only [Pt.U, Pt.locs, Pt.cells, Pt.slots] at X4254 l4254 y4254 z4254 st4254 hQ4254
    subst l4254 y4254 z4254
    obtain ⟨m2_4254, rfl, NQ4254, K4254, pq4254_0, fq4254_0, fq4254_1, fq4254_2, fq4254_3, fq4254_4, fq4254_5, fq4254_6, fq4254_7, fq4254_8, fq4254_9, fq4254_10, fq4254_11, fq4254_12⟩ := hQ4254
    have N4255 := Fr.app N3813 NQ4254
    have f4273 := f4227.keep K4254
    have f4280 := f4234.keep K4254
    have f4281 := f4235.keep K4254 (ninS ne4209 nin0)
    have f4282 := f4236.keep K4254 (ninS ne4209 nin0)
    have f4283 := f4237.keep K4254 (ninS ne4210 nin0)
    have f4284 := f4238.keep K4254
    have f4285 := f4239.keep K4254 (ninS ne4213 nin0)
    have f4286 := f4240.keep K4254 (ninS ne4213 nin0)
    have f4287 := f4241.keep K4254 (ninS ne4213 nin0)
    have f4288 := f4242.keep K4254 (ninS ne4213 nin0)
    have f4289 := f4243.keep K4254 (ninS ne4216 nin0)
    have f4290 := f4244.keep K4254
    have f4291 := A4208.keep K4254
    have Old4292 := Old4245.keep K4254 (allS ge4217 all0)
    have Kp4293 : Keep h0 T4254.heap [] := Kp4247.trans K4254 (allS (Or.inr (Nat.le_trans Kp3847.1 (Nat.le_of_eq g4208.symm))) all0)
    have Z4294 := Nat.le_trans Z4246 K4254.1
    have hk4295 := Nat.le_trans hk4219 K4254.1
    refine Rch.st (fun _ k => st4254.trans k) ?_
    show Rch p e below T4254 (mkF m 77 #[vI nbits, vI fbits, vI dbits, vI mode, vI lb, vI dep, vR ra_3065, vR ra_3073, vR a3793, vR ra_3812, U, U, U, U] [(.ref a4208)]) _
    refine w_goto (pc' := 90) X4254 hx hby at_77 (by decide) ?_
    refine w_astore (pc' := 92) (l' := #[vI nbits, vI fbits, vI dbits, vI mode, vI lb, vI dep, vR ra_3065, vR ra_3073, vR a3793, vR ra_3812, vR a4208, U, U, U]) X4254 hx hby at_90 rfl rfl rfl ?_
    refine w_iload (pc' := 94) X4254 hx hby at_92 rfl rfl ?_
    refine w_ifNo (pc' := 97) X4254 hx hby at_94 (XT.i0_eq_f (hlb)) rfl ?_
    refine w_aload (pc' := 99) X4254 hx hby at_97 rfl rfl rfl ?_
    refine w_goto (pc' := 103) X4254 hx hby at_99 (by decide) ?_
    refine w_astore (pc' := 105) (l' := #[vI nbits, vI fbits, vI dbits, vI mode, vI lb, vI dep, vR ra_3065, vR ra_3073, vR a3793, vR ra_3812, vR a4208, vR ra_3073, U, U]) X4254 hx hby at_103 rfl rfl rfl ?_
    exact J _ _ _ a4208 m2_4254 (.ref ra_3073) X4254 (rfl : T4254.heap = T4254.heap) N4255 Old4292 Z4294 Kp4293 hk4295 f4273 f4280 f4281 f4282 f4283 f4284 f4285 f4286 f4287 f4288 f4289 f4290 f4291 fq4254_0 fq4254_1 fq4254_2 fq4254_3 fq4254_5 fq4254_6 fq4254_7 fq4254_8 fq4254_9 fq4254_10 fq4254_11 fq4254_12 (rfl) (Or.inr rfl) ((Nat.le_trans Kp4247.1 pq4254_0))
 by_cases c4296 : (mode &&& (1 : Int32)) = 0
 ·skip
  refine w_ifYes (pc' := 10) X0 hx hby at_3 (XT.i0_eq_t (c4296)) (by decide) ?_
  refine w_iconst (pc' := 11) (v := 0) X0 hx hby at_10 rfl rfl ?_
  exact Jlb _
 ·skip
  refine w_ifNo (pc' := 6) X0 hx hby at_3 (XT.i0_eq_f (c4296)) rfl ?_
  refine w_iconst (pc' := 7) (v := 1) X0 hx hby at_6 rfl rfl ?_
  refine w_goto (pc' := 11) X0 hx hby at_7 (by decide) ?_
  exact Jlb _

set_option maxRecDepth 65536 in
set_option maxHeartbeats 40000000 in
theorem comes_1 {Post : Tables → Env → Array Value → State → Outcome → State → Prop} (hpost : ∀ tb e args s v u, (limb_1_1.after args s (.returned v) u = true ∧ limb_1_2.after args s (.returned v) u = true ∧ True) → ReturnedEndW s (.returned v) u (Jvm.fieldLocs frame_1_writes args s ++ Jvm.arrayLocs frame_1_arrays args s ++ Jvm.staticLocs frame_1_statics s) 80 2560 → Post tb e args s (.returned v) u) :
    ArmFor flags0 classFile x code maxLocals ret World_1 tables_1 room_1 Calls_1 rest_1 Pre_1 Post := by
  intro l hfl _ _ p e ha hc hk s m args below hf hA hF happ hP
  obtain ⟨hcalls, hrest, hpre⟩ := hP
  obtain ⟨-, -, -, hnamed, -, -, -, hat⟩ := (Spec.applies_iff hf).mp happ
  obtain ⟨hg, hn⟩ := and_e (Cond.before_iff.mp (show (Jvm.Cond.and given_1 narrow_1).before args s = true from hpre))
  obtain ⟨hcnt, hgs⟩ := and_e hg
  obtain ⟨w0, w1, w2, w3, rfl⟩ : ∃ w0 w1 w2 w3, args = #[w0, w1, w2, w3] := by
    have hs : args.size = 4 := by simpa [Cond.value, given_1] using hcnt
    obtain ⟨L⟩ := args
    match L, hs with
    | [w0, w1, w2, w3], _ => exact ⟨w0, w1, w2, w3, rfl⟩
  have hw := fun d (hd : d ∈ tables_1) => atoms_spec (ws := Jvm.Cond.code x code maxLocals ret :: tables_1) hat d (List.mem_cons_of_mem _ hd)
  obtain ⟨hsets, hown0⟩ := atoms_of _ (rest_1_c_eq ▸ (show rest_1_c.before _ s = true from hrest))
  have hfit : Fit s := fun {y c} hc i hi => by
    obtain ⟨ha, rfl⟩ := Array.getElem?_eq_some_iff.mp hc
    have q := List.all_eq_true.mp ((Array.all_eq_true_iff_forall_mem.mp hF) _ (Array.getElem_mem ha)) i (List.mem_range.mpr hi)
    simpa [Array.getElem?_eq_getElem hi] using q
  obtain ⟨g0, gr0⟩ := and_e hgs
  obtain ⟨i0, q0⟩ := is_v g0
  obtain rfl : w0 = (.int i0) := Option.some.inj q0
  obtain ⟨g1, gr1⟩ := and_e gr0
  obtain ⟨i1, q1⟩ := is_v g1
  obtain rfl : w1 = (.int i1) := Option.some.inj q1
  obtain ⟨g2, gr2⟩ := and_e gr1
  obtain ⟨i2, q2⟩ := is_v g2
  obtain rfl : w2 = (.int i2) := Option.some.inj q2
  obtain ⟨i3, q3⟩ := is_v gr2
  obtain rfl : w3 = (.int i3) := Option.some.inj q3
  obtain ⟨G1, eG⟩ := is_v (Cond.before_iff.mp (hsets _ (List.mem_of_getElem? (i := 1) rfl)))
  have O2 := Sta.start eG (Or.inl (hsets _ (List.mem_of_getElem? (i := 0) rfl)))
  have P5 : ¬ (G1 = (0 : Int32)) := gotF (Cond.eq_ints eG (Term.int_eval (0))) (not_v (Cond.before_iff.mp (hsets _ (List.mem_of_getElem? (i := 2) rfl))))
  obtain ⟨G6, eG6⟩ := exa_v (Cond.before_iff.mp (hsets _ (List.mem_of_getElem? (i := 11) rfl)))
  have O6 := Sta.start eG6 (Or.inl (hsets _ (List.mem_of_getElem? (i := 10) rfl)))
  have H131 := hcalls.1 ("com/example/mandoline/mandoline/Variable", 131) (List.mem_of_getElem? (i := 0) rfl)
  have H22 := hcalls.1 ("com/example/mandoline/mandoline/VariableFunctionPinLaw", 22) (List.mem_of_getElem? (i := 1) rfl)
  obtain ⟨n, o, h1, h2, h3, _, L, rfl, ⟨rfl, N, -⟩, hq⟩ := rm_law l s _ hw tables_1 G1 G6 i0 i1 i2 i3 s.heap s.heap.size (Nat.le_refl _) O2 P5 O6 H131 H22 (hsets _ (List.mem_of_getElem? (i := 2) rfl)) (OldL.start s) p e ha hc hk s m _ below hf ((Spec.applies_iff_loose hf).mp happ).1 ⟨rfl, State.Warmed39.refl s, rfl, IB.start⟩ trivial
  refine ⟨n, _, h1, h2, h3, hpost _ _ _ _ _ _ ⟨Cond.after_iff.mpr rfl, Cond.after_iff.mpr (eq_i res_at (Term.int_eval (1)) rfl), trivial⟩ ⟨hq.1, hq.2.1, hq.2.2.1, (hq.2.2.2.sift fun y hy => Or.inr (N y hy)).mono (by decide) (by decide)⟩⟩
theorem main_1_1 : Claimed_1_1 := comes_1 fun _ _ _ _ _ _ h hF => ⟨h.1, hF⟩
theorem main_1_2 : Claimed_1_2 := comes_1 fun _ _ _ _ _ _ h hF => ⟨h.2.1, hF⟩
end Jvm.Pilot.@@N@@
namespace Jvm.Pilot.@@N@@
open Jvm Jvm.ClassFile Sem Op Lib Jvm.Free Jvm.Stand Jvm.Pilot.@@N@@.Jvm.D
/-! MADE BY PROGRAM (witnessworld.py) out of the Statement's table words and the real class files: 50 classes; the members and pool entries that the words name. The judged class is class 1, her method 3. -/
namespace start1
open Jvm.ClassFile
def u (s : String) : CpInfo := .utf8 (stringToUtf16 s)
/-- a pool by its gaps: so many unusable entries, then the entry; so many at the end -/
def gap : Nat → List CpInfo → List CpInfo
  | 0, r => r
  | n + 1, r => .unusable :: gap n r
def poolList (es : List (Nat × CpInfo)) (last : Nat) : List CpInfo := es.foldr (fun e r => gap e.1 (e.2 :: r)) (gap last [])
def pool (es : List (Nat × CpInfo)) (last : Nat) : Array CpInfo := ⟨poolList es last⟩
def fileOf (pool : Array CpInfo) (this : Nat) (attrs : Array Attribute := #[]) (ms : Array MethodInfo := #[]) (fl : Nat := 33) (sup : Nat := 0) (ifs : Array Nat := #[]) (fds : Array FieldInfo := #[]) : ClassFile where
  minorVersion := 0
  majorVersion := 65
  constantPool := pool
  accessFlags := fl
  thisClass := this
  superClass := sup
  interfaces := ifs
  fields := fds
  methods := ms
  attributes := attrs
def plain (name : String) (sup : Option ClassId) : Class where
  name := name
  kind := .ordinary
  loader := none
  accessFlags := 33
  super := sup
  interfaces := #[]
  cf := none
  fields := #[]
  methods := #[]
  instanceTypes := #[]
  staticTypes := #[]
  resolved := #[]
  callSites := []
  init := .initialized
  statics := none
  mirror := none

def pool0 : Array CpInfo := pool [(5, u "<init>"), (0, u "()V"), (1, .class_ 10), (1, u "java/lang/Object"), (16, u "hashCode"), (0, u "()I")] 95

def k0c0 : Code := { maxStack := 0, maxLocals := 1, code := object_method_1_code, exceptionTable := #[], attributes := #[] }
def k0m0 : Method := { name := "<init>", desc := "()V", sig := { parameters := [], returnType := none }, accessFlags := 1, code := some k0c0 }
def k0m1 : Method := { name := "hashCode", desc := "()I", sig := { parameters := [], returnType := some .int }, accessFlags := 257, code := none }
/-- java/lang/Object -/
def k0 : Class := { plain "java/lang/Object" none with
  accessFlags := 33
  interfaces := #[]
  cf := some (fileOf pool0 8 #[] #[{ accessFlags := 1, nameIndex := 5, descriptorIndex := 6, attributes := #[] }, { accessFlags := 257, nameIndex := 27, descriptorIndex := 28, attributes := #[] }] 33 0 #[] #[])
  fields := #[]
  methods := #[k0m0, k0m1]
  instanceTypes := #[]
  staticTypes := #[]
  resolved := Array.replicate 124 none
  statics := none }

def pool1 : Array CpInfo := pool [(2, .class_ 4), (1, u "java/lang/Object"), (0, u "<init>"), (0, u "()V"), (0, .class_ 8), (0, u "java/lang/String"), (0, .methodref 7 10), (0, .nameAndType 5 11), (0, u "([C)V"), (0, .methodref 7 13), (0, .nameAndType 14 15), (0, u "equals"), (0, u "(Ljava/lang/Object;)Z"), (0, .methodref 17 18), (0, .class_ 19), (0, .nameAndType 20 21), (0, u "com/example/mandoline/mandoline/VariableFunctionPinLaw"), (0, u "str2"), (0, u "(I)Ljava/lang/String;"), (0, .string 23), (0, u ""), (0, .class_ 25), (0, u "com/example/mandoline/mandoline/Variable"), (0, .methodref 24 27), (0, .nameAndType 5 28), (0, u "(Ljava/lang/String;Lcom/example/mandoline/mandoline/ClangNode;Ljava/lang/String;)V"), (0, .methodref 24 30), (0, .nameAndType 5 31), (0, u "(Ljava/lang/String;Lcom/example/mandoline/mandoline/ClangNode;)V"), (0, .methodref 24 33), (0, .nameAndType 34 35), (0, u "function"), (0, u "()Ljava/lang/String;"), (0, .methodref 17 37), (0, .nameAndType 38 39), (0, u "same"), (0, u "(Ljava/lang/String;Ljava/lang/String;)Z"), (0, .class_ 41), (0, u "com/example/mandoline/mandoline/Place$Field"), (0, .methodref 40 43), (0, .nameAndType 5 44), (0, u "(Ljava/lang/String;Ljava/lang/String;)V"), (0, .methodref 24 46), (0, .nameAndType 47 48), (0, u "addField"), (0, u "(Lcom/example/mandoline/mandoline/Place$Field;)Lcom/example/mandoline/mandoline/Variable;"), (3, u "law"), (0, u "(IIII)Z")] 6

def k1m0 : Method := { name := "<init>", desc := "()V", sig := { parameters := [], returnType := none }, accessFlags := 1, code := none }
def k1c1 : Code := { maxStack := 4, maxLocals := 2, code := method_2_code, exceptionTable := #[], attributes := #[] }
def k1m1 : Method := { name := "str2", desc := "(I)Ljava/lang/String;", sig := { parameters := [.int], returnType := some (.object "java/lang/String") }, accessFlags := 10, code := some k1c1 }
def k1c2 : Code := { maxStack := 2, maxLocals := 2, code := method_3_code, exceptionTable := #[], attributes := #[] }
def k1m2 : Method := { name := "same", desc := "(Ljava/lang/String;Ljava/lang/String;)Z", sig := { parameters := [(.object "java/lang/String"), (.object "java/lang/String")], returnType := some .boolean }, accessFlags := 10, code := some k1c2 }
def k1c3 : Code := { maxStack := 5, maxLocals := 14, code := code, exceptionTable := #[], attributes := #[] }
def k1m3 : Method := { name := "law", desc := "(IIII)Z", sig := { parameters := [.int, .int, .int, .int], returnType := some .boolean }, accessFlags := 9, code := some k1c3 }
/-- com/example/mandoline/mandoline/VariableFunctionPinLaw -/
def k1 : Class := { plain "com/example/mandoline/mandoline/VariableFunctionPinLaw" (some 0) with
  accessFlags := 49
  interfaces := #[]
  cf := some (fileOf pool1 17 #[] #[{ accessFlags := 1, nameIndex := 5, descriptorIndex := 6, attributes := #[] }, { accessFlags := 10, nameIndex := 20, descriptorIndex := 21, attributes := #[] }, { accessFlags := 10, nameIndex := 38, descriptorIndex := 39, attributes := #[] }, { accessFlags := 9, nameIndex := 52, descriptorIndex := 53, attributes := #[] }] 49 2 #[] #[])
  fields := #[]
  methods := #[k1m0, k1m1, k1m2, k1m3]
  instanceTypes := #[]
  staticTypes := #[]
  resolved := Array.replicate 60 none
  statics := none }

def pool2 : Array CpInfo := pool [(1, .class_ 2), (0, u "java/io/Serializable"), (0, .class_ 4), (0, u "java/lang/Object")] 2

/-- java/io/Serializable -/
def k2 : Class := { plain "java/io/Serializable" (some 0) with
  accessFlags := 1537
  interfaces := #[]
  cf := some (fileOf pool2 1 #[] #[] 1537 3 #[] #[])
  fields := #[]
  methods := #[]
  instanceTypes := #[]
  staticTypes := #[]
  resolved := Array.replicate 7 none
  statics := none }

def pool3 : Array CpInfo := pool [(1, .class_ 2), (0, u "java/lang/Comparable"), (0, .class_ 4), (0, u "java/lang/Object")] 7

/-- java/lang/Comparable -/
def k3 : Class := { plain "java/lang/Comparable" (some 0) with
  accessFlags := 1537
  interfaces := #[]
  cf := some (fileOf pool3 1 #[] #[] 1537 3 #[] #[])
  fields := #[]
  methods := #[]
  instanceTypes := #[]
  staticTypes := #[]
  resolved := Array.replicate 12 none
  statics := none }

def pool4 : Array CpInfo := pool [(2, .class_ 4), (1, u "java/lang/CharSequence"), (42, .class_ 48), (0, u "java/lang/CharSequence$1CodePointIterator"), (10, .class_ 60), (0, u "java/lang/CharSequence$1CharIterator"), (5, .class_ 67), (0, u "java/lang/Object")] 63

/-- java/lang/CharSequence -/
def k4 : Class := { plain "java/lang/CharSequence" (some 0) with
  accessFlags := 1537
  interfaces := #[]
  cf := some (fileOf pool4 2 #[.nestMembers #[47, 59]] #[] 1537 66 #[] #[])
  fields := #[]
  methods := #[]
  instanceTypes := #[]
  staticTypes := #[]
  resolved := Array.replicate 131 none
  statics := none }

def pool5 : Array CpInfo := pool [(1, .class_ 2), (0, u "java/lang/constant/Constable"), (0, .class_ 4), (0, u "java/lang/Object")] 6

/-- java/lang/constant/Constable -/
def k5 : Class := { plain "java/lang/constant/Constable" (some 0) with
  accessFlags := 1537
  interfaces := #[]
  cf := some (fileOf pool5 1 #[] #[] 1537 3 #[] #[])
  fields := #[]
  methods := #[]
  instanceTypes := #[]
  staticTypes := #[]
  resolved := Array.replicate 11 none
  statics := none }

def pool6 : Array CpInfo := pool [(1, .class_ 2), (0, u "java/lang/constant/ConstantDesc"), (0, .class_ 4), (0, u "java/lang/Object")] 32

/-- java/lang/constant/ConstantDesc -/
def k6 : Class := { plain "java/lang/constant/ConstantDesc" (some 0) with
  accessFlags := 1537
  interfaces := #[]
  cf := some (fileOf pool6 1 #[] #[] 1537 3 #[] #[])
  fields := #[]
  methods := #[]
  instanceTypes := #[]
  staticTypes := #[]
  resolved := Array.replicate 37 none
  statics := none }

def pool7 : Array CpInfo := pool [(1, .methodref 2 3), (0, .class_ 4), (0, .nameAndType 5 6), (0, u "java/lang/Object"), (0, u "<init>"), (0, u "()V"), (2, .fieldref 10 11), (0, .class_ 12), (0, .nameAndType 13 14), (0, u "java/lang/String"), (0, u "value"), (0, u "[B"), (0, .fieldref 10 16), (0, .nameAndType 17 18), (0, u "coder"), (0, u "B"), (0, .fieldref 10 20), (0, .nameAndType 21 22), (0, u "hash"), (0, u "I"), (0, .fieldref 10 24), (0, .nameAndType 25 26), (0, u "hashIsZero"), (0, u "Z"), (0, .methodref 10 28), (0, .nameAndType 5 29), (0, u "([CIILjava/lang/Void;)V"), (8, .fieldref 10 39), (0, .nameAndType 40 26), (0, u "COMPACT_STRINGS"), (1, .class_ 44), (1, u "java/lang/StringUTF16"), (0, u "compress"), (1, .methodref 42 48), (0, .nameAndType 49 50), (0, u "coderFromArrayLen"), (0, u "([BI)B"), (3, .methodref 55 56), (0, .class_ 57), (0, .nameAndType 58 59), (0, u "java/util/Arrays"), (0, u "copyOfRange"), (0, u "([BII)[B"), (47, .class_ 109), (1, u "java/lang/StringLatin1"), (32, u "()Z"), (34, .methodref 42 178), (0, .nameAndType 45 179), (0, u "([CII)[B"), (13, .class_ 195), (1, u "java/lang/System"), (16, .methodref 193 213), (0, .nameAndType 214 215), (0, u "arraycopy"), (0, u "(Ljava/lang/Object;ILjava/lang/Object;II)V"), (118, u "()I"), (0, .methodref 10 336), (0, .nameAndType 17 337), (0, u "()B"), (2, u "()[B"), (148, .methodref 10 490), (0, .nameAndType 5 491), (0, u "(Ljava/lang/AbstractStringBuilder;Ljava/lang/Void;)V"), (0, .methodref 10 493), (0, .nameAndType 494 142), (0, u "isLatin1"), (11, .nameAndType 507 334), (0, u "length"), (24, u "getBytes"), (10, u "equals"), (5, .methodref 550 506), (0, .class_ 551), (0, u "java/lang/AbstractStringBuilder"), (0, .methodref 550 553), (0, .nameAndType 554 340), (0, u "getValue"), (18, u "(Ljava/lang/Object;)Z"), (1, .class_ 576), (0, u "java/lang/CharSequence"), (22, u "CASE_INSENSITIVE_ORDER"), (0, u "Ljava/util/Comparator;"), (27, .methodref 107 629), (0, .nameAndType 630 631), (0, u "hashCode"), (0, u "([B)I"), (60, u "isEmpty"), (128, u "([BIB)V"), (188, u "([C)V"), (36, .methodref 550 493), (53, u "serialPersistentFields"), (0, u "[Ljava/io/ObjectStreamField;"), (0, .class_ 1104), (0, u "java/lang/String$CaseInsensitiveComparator"), (1, .class_ 1107), (0, u "java/io/Serializable"), (0, .class_ 1109), (0, u "java/lang/Comparable"), (0, .class_ 1111), (0, u "java/lang/constant/Constable"), (0, .class_ 1113), (0, u "java/lang/constant/ConstantDesc"), (2, u "serialVersionUID"), (0, u "J"), (3, u "REPL"), (0, u "C"), (2, u "LATIN1"), (1, u "UTF16"), (105, u "(Ljava/lang/StringBuilder;)V")] 217

def k7m0 : Method := { name := "<init>", desc := "()V", sig := { parameters := [], returnType := none }, accessFlags := 1, code := none }
def k7c1 : Code := { maxStack := 5, maxLocals := 2, code := jdk_42_method_3_code, exceptionTable := #[], attributes := #[] }
def k7m1 : Method := { name := "<init>", desc := "([C)V", sig := { parameters := [(.array .char)], returnType := none }, accessFlags := 1, code := some k7c1 }
def k7c2 : Code := { maxStack := 3, maxLocals := 2, code := jdk_42_method_53_code, exceptionTable := #[], attributes := #[] }
def k7m2 : Method := { name := "<init>", desc := "(Ljava/lang/StringBuilder;)V", sig := { parameters := [(.object "java/lang/StringBuilder")], returnType := none }, accessFlags := 1, code := some k7c2 }
def k7c3 : Code := { maxStack := 2, maxLocals := 1, code := jdk_42_method_54_code, exceptionTable := #[], attributes := #[] }
def k7m3 : Method := { name := "length", desc := "()I", sig := { parameters := [], returnType := some .int }, accessFlags := 1, code := some k7c3 }
def k7c4 : Code := { maxStack := 1, maxLocals := 1, code := jdk_42_method_55_code, exceptionTable := #[], attributes := #[] }
def k7m4 : Method := { name := "isEmpty", desc := "()Z", sig := { parameters := [], returnType := some .boolean }, accessFlags := 1, code := some k7c4 }
def k7c5 : Code := { maxStack := 2, maxLocals := 3, code := jdk_42_method_66_code, exceptionTable := #[], attributes := #[] }
def k7m5 : Method := { name := "equals", desc := "(Ljava/lang/Object;)Z", sig := { parameters := [(.object "java/lang/Object")], returnType := some .boolean }, accessFlags := 1, code := some k7c5 }
def k7c6 : Code := { maxStack := 2, maxLocals := 2, code := jdk_42_method_78_code, exceptionTable := #[], attributes := #[] }
def k7m6 : Method := { name := "hashCode", desc := "()I", sig := { parameters := [], returnType := some .int }, accessFlags := 1, code := some k7c6 }
def k7c7 : Code := { maxStack := 5, maxLocals := 4, code := jdk_42_method_147_code, exceptionTable := #[], attributes := #[] }
def k7m7 : Method := { name := "getBytes", desc := "([BIB)V", sig := { parameters := [(.array .byte), .int, .byte], returnType := none }, accessFlags := 0, code := some k7c7 }
def k7c8 : Code := { maxStack := 4, maxLocals := 6, code := jdk_42_method_149_code, exceptionTable := #[], attributes := #[] }
def k7m8 : Method := { name := "<init>", desc := "([CIILjava/lang/Void;)V", sig := { parameters := [(.array .char), .int, .int, (.object "java/lang/Void")], returnType := none }, accessFlags := 2, code := some k7c8 }
def k7c9 : Code := { maxStack := 5, maxLocals := 5, code := jdk_42_method_150_code, exceptionTable := #[], attributes := #[] }
def k7m9 : Method := { name := "<init>", desc := "(Ljava/lang/AbstractStringBuilder;Ljava/lang/Void;)V", sig := { parameters := [(.object "java/lang/AbstractStringBuilder"), (.object "java/lang/Void")], returnType := none }, accessFlags := 0, code := some k7c9 }
def k7c10 : Code := { maxStack := 1, maxLocals := 1, code := jdk_42_method_152_code, exceptionTable := #[], attributes := #[] }
def k7m10 : Method := { name := "coder", desc := "()B", sig := { parameters := [], returnType := some .byte }, accessFlags := 0, code := some k7c10 }
def k7c11 : Code := { maxStack := 1, maxLocals := 1, code := jdk_42_method_154_code, exceptionTable := #[], attributes := #[] }
def k7m11 : Method := { name := "isLatin1", desc := "()Z", sig := { parameters := [], returnType := some .boolean }, accessFlags := 0, code := some k7c11 }
/-- java/lang/String -/
def k7 : Class := { plain "java/lang/String" (some 0) with
  accessFlags := 49
  interfaces := #[2, 3, 4, 5, 6]
  cf := some (fileOf pool7 10 #[.nestMembers #[1103]] #[{ accessFlags := 1, nameIndex := 5, descriptorIndex := 6, attributes := #[] }, { accessFlags := 1, nameIndex := 5, descriptorIndex := 1010, attributes := #[] }, { accessFlags := 1, nameIndex := 5, descriptorIndex := 1233, attributes := #[] }, { accessFlags := 1, nameIndex := 507, descriptorIndex := 334, attributes := #[] }, { accessFlags := 1, nameIndex := 692, descriptorIndex := 142, attributes := #[] }, { accessFlags := 1, nameIndex := 543, descriptorIndex := 573, attributes := #[] }, { accessFlags := 1, nameIndex := 630, descriptorIndex := 334, attributes := #[] }, { accessFlags := 0, nameIndex := 532, descriptorIndex := 821, attributes := #[] }, { accessFlags := 2, nameIndex := 5, descriptorIndex := 29, attributes := #[] }, { accessFlags := 0, nameIndex := 5, descriptorIndex := 491, attributes := #[] }, { accessFlags := 0, nameIndex := 17, descriptorIndex := 337, attributes := #[] }, { accessFlags := 0, nameIndex := 494, descriptorIndex := 142, attributes := #[] }] 49 2 #[1106, 1108, 575, 1110, 1112] #[{ accessFlags := 18, nameIndex := 13, descriptorIndex := 14, attributes := #[] }, { accessFlags := 18, nameIndex := 17, descriptorIndex := 18, attributes := #[] }, { accessFlags := 2, nameIndex := 21, descriptorIndex := 22, attributes := #[] }, { accessFlags := 2, nameIndex := 25, descriptorIndex := 26, attributes := #[] }, { accessFlags := 26, nameIndex := 1116, descriptorIndex := 1117, attributes := #[] }, { accessFlags := 24, nameIndex := 40, descriptorIndex := 26, attributes := #[] }, { accessFlags := 26, nameIndex := 1101, descriptorIndex := 1102, attributes := #[] }, { accessFlags := 26, nameIndex := 1121, descriptorIndex := 1122, attributes := #[] }, { accessFlags := 25, nameIndex := 599, descriptorIndex := 600, attributes := #[] }, { accessFlags := 24, nameIndex := 1125, descriptorIndex := 18, attributes := #[] }, { accessFlags := 24, nameIndex := 1127, descriptorIndex := 18, attributes := #[] }])
  fields := #[{ name := "value", type := (.array .byte), accessFlags := 18, slot := 0, constantValue := 0 }, { name := "coder", type := .byte, accessFlags := 18, slot := 1, constantValue := 0 }, { name := "hash", type := .int, accessFlags := 2, slot := 2, constantValue := 0 }, { name := "hashIsZero", type := .boolean, accessFlags := 2, slot := 3, constantValue := 0 }, { name := "serialVersionUID", type := .long, accessFlags := 26, slot := 0, constantValue := 0 }, { name := "COMPACT_STRINGS", type := .boolean, accessFlags := 24, slot := 1, constantValue := 0 }, { name := "serialPersistentFields", type := (.array (.object "java/io/ObjectStreamField")), accessFlags := 26, slot := 2, constantValue := 0 }, { name := "REPL", type := .char, accessFlags := 26, slot := 3, constantValue := 0 }, { name := "CASE_INSENSITIVE_ORDER", type := (.object "java/util/Comparator"), accessFlags := 25, slot := 4, constantValue := 0 }, { name := "LATIN1", type := .byte, accessFlags := 24, slot := 5, constantValue := 0 }, { name := "UTF16", type := .byte, accessFlags := 24, slot := 6, constantValue := 0 }]
  methods := #[k7m0, k7m1, k7m2, k7m3, k7m4, k7m5, k7m6, k7m7, k7m8, k7m9, k7m10, k7m11]
  instanceTypes := #[(.array .byte), .byte, .int, .boolean]
  staticTypes := #[.long, .boolean, (.array (.object "java/io/ObjectStreamField")), .char, (.object "java/util/Comparator"), .byte, .byte]
  resolved := Array.replicate 1451 none
  statics := some 0 }

def pool8 : Array CpInfo := pool [(6, .class_ 8), (1, u "java/lang/Object"), (0, u "<init>"), (0, u "()V"), (1, .class_ 14), (1, u "java/lang/StringUTF16"), (31, u "$assertionsDisabled"), (0, u "Z"), (13, u "HI_BYTE_SHIFT"), (0, u "I"), (2, u "LO_BYTE_SHIFT"), (49, .methodref 12 116), (0, .nameAndType 117 118), (0, u "compress"), (0, u "([CI[BII)I"), (3, u "([CII)[B"), (138, u "coderFromArrayLen"), (0, u "([BI)B"), (106, .class_ 371), (1, u "java/lang/StringUTF16$LinesSpliterator"), (58, u "MAX_LENGTH"), (196, .class_ 628), (0, u "java/lang/StringUTF16$CodePointsSpliterator"), (0, .class_ 630), (0, u "java/lang/StringUTF16$CharsSpliterator")] 4

def k8m0 : Method := { name := "<init>", desc := "()V", sig := { parameters := [], returnType := none }, accessFlags := 0, code := none }
def k8c1 : Code := { maxStack := 2, maxLocals := 2, code := jdk_52_method_15_code, exceptionTable := #[], attributes := #[] }
def k8m1 : Method := { name := "coderFromArrayLen", desc := "([BI)B", sig := { parameters := [(.array .byte), .int], returnType := some .byte }, accessFlags := 8, code := some k8c1 }
def k8c2 : Code := { maxStack := 5, maxLocals := 6, code := jdk_52_method_16_code, exceptionTable := #[], attributes := #[] }
def k8m2 : Method := { name := "compress", desc := "([CII)[B", sig := { parameters := [(.array .char), .int, .int], returnType := some (.array .byte) }, accessFlags := 9, code := some k8c2 }
def k8c3 : Code := { maxStack := 3, maxLocals := 7, code := jdk_52_method_21_code, exceptionTable := #[], attributes := #[] }
def k8m3 : Method := { name := "compress", desc := "([CI[BII)I", sig := { parameters := [(.array .char), .int, (.array .byte), .int, .int], returnType := some .int }, accessFlags := 9, code := some k8c3 }
/-- java/lang/StringUTF16 -/
def k8 : Class := { plain "java/lang/StringUTF16" (some 0) with
  accessFlags := 48
  interfaces := #[]
  cf := some (fileOf pool8 12 #[.nestMembers #[627, 629, 369]] #[{ accessFlags := 0, nameIndex := 9, descriptorIndex := 10, attributes := #[] }, { accessFlags := 8, nameIndex := 261, descriptorIndex := 262, attributes := #[] }, { accessFlags := 9, nameIndex := 117, descriptorIndex := 122, attributes := #[] }, { accessFlags := 9, nameIndex := 117, descriptorIndex := 118, attributes := #[] }] 48 6 #[] #[{ accessFlags := 26, nameIndex := 61, descriptorIndex := 62, attributes := #[] }, { accessFlags := 26, nameIndex := 65, descriptorIndex := 62, attributes := #[] }, { accessFlags := 24, nameIndex := 430, descriptorIndex := 62, attributes := #[] }, { accessFlags := 4120, nameIndex := 46, descriptorIndex := 47, attributes := #[] }])
  fields := #[{ name := "HI_BYTE_SHIFT", type := .int, accessFlags := 26, slot := 0, constantValue := 0 }, { name := "LO_BYTE_SHIFT", type := .int, accessFlags := 26, slot := 1, constantValue := 0 }, { name := "MAX_LENGTH", type := .int, accessFlags := 24, slot := 2, constantValue := 0 }, { name := "$assertionsDisabled", type := .boolean, accessFlags := 4120, slot := 3, constantValue := 0 }]
  methods := #[k8m0, k8m1, k8m2, k8m3]
  instanceTypes := #[]
  staticTypes := #[.int, .int, .int, .boolean]
  resolved := Array.replicate 635 none
  statics := none }

def pool9 : Array CpInfo := pool [(1, .methodref 2 3), (0, .class_ 4), (0, .nameAndType 5 6), (0, u "com/example/mandoline/mandoline/Variable"), (0, u "<init>"), (0, u "(Ljava/lang/String;Lcom/example/mandoline/mandoline/ClangNode;Ljava/lang/String;Lcom/example/mandoline/mandoline/Variable;)V"), (0, .methodref 8 9), (0, .class_ 10), (0, .nameAndType 5 11), (0, u "java/lang/Object"), (0, u "()V"), (0, .class_ 13), (0, u "java/util/LinkedHashMap"), (0, .methodref 12 9), (0, .fieldref 2 16), (0, .nameAndType 17 18), (0, u "fields"), (0, u "Ljava/util/Map;"), (0, .interfaceMethodref 20 21), (0, .class_ 22), (0, .nameAndType 23 24), (0, u "java/util/List"), (0, u "of"), (0, u "()Ljava/util/List;"), (0, .fieldref 2 26), (0, .nameAndType 27 28), (0, u "declarationNodes"), (0, u "Ljava/util/List;"), (0, .fieldref 2 30), (0, .nameAndType 31 32), (0, u "name"), (0, u "Ljava/lang/String;"), (0, .fieldref 2 34), (0, .nameAndType 35 36), (0, u "declaringStatement"), (0, u "Lcom/example/mandoline/mandoline/ClangNode;"), (0, .fieldref 2 38), (0, .nameAndType 39 32), (0, u "function"), (0, .fieldref 2 41), (0, .nameAndType 42 43), (0, u "containing"), (0, u "Lcom/example/mandoline/mandoline/Variable;"), (9, .methodref 2 54), (0, .nameAndType 39 55), (0, u "()Ljava/lang/String;"), (5, .class_ 63), (1, u "java/util/Map"), (1, u "(Ljava/lang/Object;)Ljava/lang/Object;"), (0, .methodref 67 68), (0, .class_ 69), (0, .nameAndType 70 55), (0, u "com/example/mandoline/mandoline/Place$Field"), (0, u "key"), (0, .invokeDynamic 0 72), (0, .nameAndType 73 74), (0, u "apply"), (0, u "(Lcom/example/mandoline/mandoline/Variable;Lcom/example/mandoline/mandoline/Place$Field;)Ljava/util/function/Function;"), (0, .interfaceMethodref 61 76), (0, .nameAndType 77 78), (0, u "computeIfAbsent"), (0, u "(Ljava/lang/Object;Ljava/util/function/Function;)Ljava/lang/Object;"), (1, .nameAndType 81 82), (0, u "isEmpty"), (0, u "()Z"), (36, .methodref 67 120), (0, .nameAndType 31 55), (0, .methodref 122 80), (0, .class_ 123), (0, u "java/lang/String"), (0, .class_ 125), (0, u "java/lang/StringBuilder"), (0, .methodref 124 9), (0, .methodref 124 128), (0, .nameAndType 129 130), (0, u "append"), (0, u "(Ljava/lang/String;)Ljava/lang/StringBuilder;"), (0, .string 132), (0, u "."), (0, .methodref 124 134), (0, .nameAndType 135 55), (0, u "toString"), (3, u "(Ljava/lang/String;Lcom/example/mandoline/mandoline/ClangNode;)V"), (2, u "(Ljava/lang/String;Lcom/example/mandoline/mandoline/ClangNode;Ljava/lang/String;)V"), (8, u "(Ljava/lang/String;)Lcom/example/mandoline/mandoline/Variable;"), (0, u "addField"), (0, u "(Lcom/example/mandoline/mandoline/Place$Field;)Lcom/example/mandoline/mandoline/Variable;"), (1, u "lambda$addField$0"), (0, u "(Lcom/example/mandoline/mandoline/Place$Field;Ljava/lang/String;)Lcom/example/mandoline/mandoline/Variable;"), (3, .methodType 65), (0, .methodHandle 5 162), (0, .methodref 2 163), (0, .nameAndType 155 156), (0, .methodType 151), (0, .methodHandle 6 166), (0, .methodref 167 168), (0, .class_ 169), (0, .nameAndType 170 171), (0, u "java/lang/invoke/LambdaMetafactory"), (0, u "metafactory"), (0, u "(Ljava/lang/invoke/MethodHandles$Lookup;Ljava/lang/String;Ljava/lang/invoke/MethodType;Ljava/lang/invoke/MethodType;Ljava/lang/invoke/MethodHandle;Ljava/lang/invoke/MethodType;)Ljava/lang/invoke/CallSite;")] 9

def k9c0 : Code := { maxStack := 5, maxLocals := 3, code := prog_50_method_1_code, exceptionTable := #[], attributes := #[] }
def k9m0 : Method := { name := "<init>", desc := "(Ljava/lang/String;Lcom/example/mandoline/mandoline/ClangNode;)V", sig := { parameters := [(.object "java/lang/String"), (.object "com/example/mandoline/mandoline/ClangNode")], returnType := none }, accessFlags := 0, code := some k9c0 }
def k9c1 : Code := { maxStack := 5, maxLocals := 4, code := prog_50_method_2_code, exceptionTable := #[], attributes := #[] }
def k9m1 : Method := { name := "<init>", desc := "(Ljava/lang/String;Lcom/example/mandoline/mandoline/ClangNode;Ljava/lang/String;)V", sig := { parameters := [(.object "java/lang/String"), (.object "com/example/mandoline/mandoline/ClangNode"), (.object "java/lang/String")], returnType := none }, accessFlags := 0, code := some k9c1 }
def k9c2 : Code := { maxStack := 3, maxLocals := 5, code := prog_50_method_3_code, exceptionTable := #[], attributes := #[] }
def k9m2 : Method := { name := "<init>", desc := "(Ljava/lang/String;Lcom/example/mandoline/mandoline/ClangNode;Ljava/lang/String;Lcom/example/mandoline/mandoline/Variable;)V", sig := { parameters := [(.object "java/lang/String"), (.object "com/example/mandoline/mandoline/ClangNode"), (.object "java/lang/String"), (.object "com/example/mandoline/mandoline/Variable")], returnType := none }, accessFlags := 2, code := some k9c2 }
def k9c3 : Code := { maxStack := 1, maxLocals := 1, code := prog_50_method_8_code, exceptionTable := #[], attributes := #[] }
def k9m3 : Method := { name := "function", desc := "()Ljava/lang/String;", sig := { parameters := [], returnType := some (.object "java/lang/String") }, accessFlags := 0, code := some k9c3 }
def k9c4 : Code := { maxStack := 4, maxLocals := 2, code := prog_50_method_12_code, exceptionTable := #[], attributes := #[] }
def k9m4 : Method := { name := "addField", desc := "(Lcom/example/mandoline/mandoline/Place$Field;)Lcom/example/mandoline/mandoline/Variable;", sig := { parameters := [(.object "com/example/mandoline/mandoline/Place$Field")], returnType := some (.object "com/example/mandoline/mandoline/Variable") }, accessFlags := 0, code := some k9c4 }
def k9c5 : Code := { maxStack := 6, maxLocals := 3, code := prog_50_method_15_code, exceptionTable := #[], attributes := #[] }
def k9m5 : Method := { name := "lambda$addField$0", desc := "(Lcom/example/mandoline/mandoline/Place$Field;Ljava/lang/String;)Lcom/example/mandoline/mandoline/Variable;", sig := { parameters := [(.object "com/example/mandoline/mandoline/Place$Field"), (.object "java/lang/String")], returnType := some (.object "com/example/mandoline/mandoline/Variable") }, accessFlags := 4098, code := some k9c5 }
/-- com/example/mandoline/mandoline/Variable -/
def k9 : Class := { plain "com/example/mandoline/mandoline/Variable" (some 0) with
  accessFlags := 48
  interfaces := #[]
  cf := some (fileOf pool9 2 #[.bootstrapMethods #[⟨165, #[160, 161, 164]⟩]] #[{ accessFlags := 0, nameIndex := 5, descriptorIndex := 139, attributes := #[] }, { accessFlags := 0, nameIndex := 5, descriptorIndex := 142, attributes := #[] }, { accessFlags := 2, nameIndex := 5, descriptorIndex := 6, attributes := #[] }, { accessFlags := 0, nameIndex := 39, descriptorIndex := 55, attributes := #[] }, { accessFlags := 0, nameIndex := 152, descriptorIndex := 153, attributes := #[] }, { accessFlags := 4098, nameIndex := 155, descriptorIndex := 156, attributes := #[] }] 48 8 #[] #[{ accessFlags := 18, nameIndex := 31, descriptorIndex := 32, attributes := #[] }, { accessFlags := 18, nameIndex := 35, descriptorIndex := 36, attributes := #[] }, { accessFlags := 18, nameIndex := 39, descriptorIndex := 32, attributes := #[] }, { accessFlags := 18, nameIndex := 42, descriptorIndex := 43, attributes := #[] }, { accessFlags := 18, nameIndex := 17, descriptorIndex := 18, attributes := #[] }, { accessFlags := 2, nameIndex := 27, descriptorIndex := 28, attributes := #[] }])
  fields := #[{ name := "name", type := (.object "java/lang/String"), accessFlags := 18, slot := 0, constantValue := 0 }, { name := "declaringStatement", type := (.object "com/example/mandoline/mandoline/ClangNode"), accessFlags := 18, slot := 1, constantValue := 0 }, { name := "function", type := (.object "java/lang/String"), accessFlags := 18, slot := 2, constantValue := 0 }, { name := "containing", type := (.object "com/example/mandoline/mandoline/Variable"), accessFlags := 18, slot := 3, constantValue := 0 }, { name := "fields", type := (.object "java/util/Map"), accessFlags := 18, slot := 4, constantValue := 0 }, { name := "declarationNodes", type := (.object "java/util/List"), accessFlags := 2, slot := 5, constantValue := 0 }]
  methods := #[k9m0, k9m1, k9m2, k9m3, k9m4, k9m5]
  instanceTypes := #[(.object "java/lang/String"), (.object "com/example/mandoline/mandoline/ClangNode"), (.object "java/lang/String"), (.object "com/example/mandoline/mandoline/Variable"), (.object "java/util/Map"), (.object "java/util/List")]
  staticTypes := #[]
  resolved := Array.replicate 181 none
  callSites := [(4, 10, .makes 49)]
  statics := none }

def pool10 : Array CpInfo := pool [(2, .class_ 4), (1, u "java/util/Map"), (31, .class_ 37), (0, u "java/util/Map$Entry"), (55, .class_ 94), (0, u "java/lang/Object"), (85, u "computeIfAbsent"), (0, u "(Ljava/lang/Object;Ljava/util/function/Function;)Ljava/lang/Object;")] 81

def k10c0 : Code := { maxStack := 3, maxLocals := 5, code := ⟨#[0x2c, 0xb8, 0x00, 0x0b, 0x57, 0x2a, 0x2b, 0xb9, 0x00, 0x01, 0x02, 0x00, 0x59, 0x4e, 0xc7, 0x00, 0x1d, 0x2c, 0x2b, 0xb9, 0x00, 0x4d, 0x02, 0x00, 0x59, 0x3a, 0x04, 0xc6, 0x00, 0x10, 0x2a, 0x2b, 0x19, 0x04, 0xb9, 0x00, 0x43, 0x03, 0x00, 0x57, 0x19, 0x04, 0xb0, 0x2d, 0xb0]⟩, exceptionTable := #[], attributes := #[] }
def k10m0 : Method := { name := "computeIfAbsent", desc := "(Ljava/lang/Object;Ljava/util/function/Function;)Ljava/lang/Object;", sig := { parameters := [(.object "java/lang/Object"), (.object "java/util/function/Function")], returnType := some (.object "java/lang/Object") }, accessFlags := 1, code := some k10c0 }
/-- java/util/Map -/
def k10 : Class := { plain "java/util/Map" (some 0) with
  accessFlags := 1537
  interfaces := #[]
  cf := some (fileOf pool10 2 #[.nestMembers #[36]] #[{ accessFlags := 1, nameIndex := 180, descriptorIndex := 181, attributes := #[] }] 1537 93 #[] #[])
  fields := #[]
  methods := #[k10m0]
  instanceTypes := #[]
  staticTypes := #[]
  resolved := Array.replicate 263 none
  statics := none }

def pool11 : Array CpInfo := pool [(1, .methodref 2 3), (0, .class_ 4), (0, .nameAndType 5 6), (0, u "java/lang/Object"), (0, u "<init>"), (0, u "()V"), (1, .class_ 10), (1, u "java/util/AbstractMap"), (42, .class_ 54), (0, u "java/util/Map"), (9, u "keySet"), (0, u "Ljava/util/Set;"), (0, .class_ 67), (0, u "java/util/AbstractMap$1"), (5, u "values"), (0, u "Ljava/util/Collection;"), (0, .class_ 76), (0, u "java/util/AbstractMap$2"), (104, .class_ 182), (0, u "java/util/AbstractMap$ViewCollection"), (0, .class_ 184), (0, u "java/util/AbstractMap$SimpleImmutableEntry"), (0, .class_ 186), (0, u "java/util/AbstractMap$SimpleEntry"), (0, .class_ 188), (0, u "java/util/AbstractMap$2$1"), (0, .class_ 190), (0, u "java/util/AbstractMap$1$1")] 5

def k11c0 : Code := { maxStack := 1, maxLocals := 1, code := jdk_71_method_1_code, exceptionTable := #[], attributes := #[] }
def k11m0 : Method := { name := "<init>", desc := "()V", sig := { parameters := [], returnType := none }, accessFlags := 4, code := some k11c0 }
/-- java/util/AbstractMap -/
def k11 : Class := { plain "java/util/AbstractMap" (some 0) with
  accessFlags := 1057
  interfaces := #[10]
  cf := some (fileOf pool11 8 #[.nestMembers #[181, 183, 185, 75, 187, 66, 189]] #[{ accessFlags := 4, nameIndex := 5, descriptorIndex := 6, attributes := #[] }] 1057 2 #[53] #[{ accessFlags := 128, nameIndex := 64, descriptorIndex := 65, attributes := #[] }, { accessFlags := 128, nameIndex := 73, descriptorIndex := 74, attributes := #[] }])
  fields := #[{ name := "keySet", type := (.object "java/util/Set"), accessFlags := 128, slot := 0, constantValue := 0 }, { name := "values", type := (.object "java/util/Collection"), accessFlags := 128, slot := 1, constantValue := 0 }]
  methods := #[k11m0]
  instanceTypes := #[(.object "java/util/Set"), (.object "java/util/Collection")]
  staticTypes := #[]
  resolved := Array.replicate 196 none
  statics := none }

def pool12 : Array CpInfo := pool [(1, .class_ 2), (0, u "java/lang/Cloneable"), (0, .class_ 4), (0, u "java/lang/Object")] 2

/-- java/lang/Cloneable -/
def k12 : Class := { plain "java/lang/Cloneable" (some 0) with
  accessFlags := 1537
  interfaces := #[]
  cf := some (fileOf pool12 1 #[] #[] 1537 3 #[] #[])
  fields := #[]
  methods := #[]
  instanceTypes := #[]
  staticTypes := #[]
  resolved := Array.replicate 7 none
  statics := none }

def pool13 : Array CpInfo := pool [(1, .methodref 2 3), (0, .class_ 4), (0, .nameAndType 5 6), (0, u "java/lang/Object"), (0, u "hashCode"), (0, u "()I"), (26, u "(Ljava/lang/Object;)I"), (6, .class_ 41), (0, u "java/util/HashMap"), (1, .methodref 44 45), (0, .class_ 46), (0, .nameAndType 47 48), (0, u "java/util/AbstractMap"), (0, u "<init>"), (0, u "()V"), (32, .fieldref 40 82), (0, .nameAndType 83 84), (0, u "loadFactor"), (0, u "F"), (3, .fieldref 40 89), (0, .nameAndType 90 91), (0, u "threshold"), (0, u "I"), (0, .float 1061158912), (8, .class_ 103), (1, u "java/util/Map"), (0, u "size"), (0, .fieldref 40 106), (0, .nameAndType 107 108), (0, u "table"), (0, u "[Ljava/util/HashMap$Node;"), (8, .methodref 40 118), (0, .nameAndType 119 120), (0, u "resize"), (0, u "()[Ljava/util/HashMap$Node;"), (2, u "entrySet"), (25, .methodref 40 150), (0, .nameAndType 151 33), (0, u "hash"), (4, .fieldref 40 157), (0, .nameAndType 104 91), (5, .class_ 165), (1, u "java/util/HashMap$Node"), (14, .class_ 181), (0, u "java/util/HashMap$TreeNode"), (4, .methodref 40 187), (0, .nameAndType 188 189), (0, u "newNode"), (0, u "(ILjava/lang/Object;Ljava/lang/Object;Ljava/util/HashMap$Node;)Ljava/util/HashMap$Node;"), (12, .fieldref 40 203), (0, .nameAndType 204 91), (0, u "modCount"), (0, .methodref 40 206), (0, .nameAndType 207 208), (0, u "afterNodeInsertion"), (0, u "(Z)V"), (33, u "Ljava/util/Set;"), (0, .class_ 244), (0, u "java/util/HashMap$KeySet"), (18, .class_ 264), (0, u "java/util/HashMap$Values"), (3, .class_ 269), (0, u "java/util/HashMap$EntrySet"), (4, .interfaceMethodref 275 276), (0, .class_ 277), (0, .nameAndType 278 279), (0, u "java/util/function/Function"), (0, u "apply"), (0, u "(Ljava/lang/Object;)Ljava/lang/Object;"), (66, .class_ 348), (1, u "java/util/HashMap$UnsafeHolder"), (43, .class_ 393), (0, u "java/lang/Cloneable"), (0, .class_ 395), (0, u "java/io/Serializable"), (0, u "serialVersionUID"), (0, u "J"), (3, u "DEFAULT_INITIAL_CAPACITY"), (1, u "MAXIMUM_CAPACITY"), (0, u "DEFAULT_LOAD_FACTOR"), (0, u "TREEIFY_THRESHOLD"), (1, u "UNTREEIFY_THRESHOLD"), (1, u "MIN_TREEIFY_CAPACITY"), (123, u "computeIfAbsent"), (0, u "(Ljava/lang/Object;Ljava/util/function/Function;)Ljava/lang/Object;"), (61, .class_ 597), (0, u "java/util/HashMap$EntrySpliterator"), (0, .class_ 599), (0, u "java/util/HashMap$ValueSpliterator"), (0, .class_ 601), (0, u "java/util/HashMap$KeySpliterator"), (0, .class_ 603), (0, u "java/util/HashMap$HashMapSpliterator"), (0, .class_ 605), (0, u "java/util/HashMap$EntryIterator"), (0, .class_ 607), (0, u "java/util/HashMap$ValueIterator"), (0, .class_ 609), (0, u "java/util/HashMap$KeyIterator"), (0, .class_ 611), (0, u "java/util/HashMap$HashIterator")] 17

def k13c0 : Code := { maxStack := 3, maxLocals := 2, code := jdk_69_method_1_code, exceptionTable := #[], attributes := #[] }
def k13m0 : Method := { name := "hash", desc := "(Ljava/lang/Object;)I", sig := { parameters := [(.object "java/lang/Object")], returnType := some .int }, accessFlags := 24, code := some k13c0 }
def k13c1 : Code := { maxStack := 2, maxLocals := 1, code := jdk_69_method_7_code, exceptionTable := #[], attributes := #[] }
def k13m1 : Method := { name := "<init>", desc := "()V", sig := { parameters := [], returnType := none }, accessFlags := 1, code := some k13c1 }
def k13c2 : Code := { maxStack := 5, maxLocals := 14, code := jdk_69_method_17_code, exceptionTable := #[], attributes := #[] }
def k13m2 : Method := { name := "resize", desc := "()[Ljava/util/HashMap$Node;", sig := { parameters := [], returnType := some (.array (.object "java/util/HashMap$Node")) }, accessFlags := 16, code := some k13c2 }
def k13c3 : Code := { maxStack := 7, maxLocals := 13, code := jdk_69_method_35_code, exceptionTable := #[], attributes := #[] }
def k13m3 : Method := { name := "computeIfAbsent", desc := "(Ljava/lang/Object;Ljava/util/function/Function;)Ljava/lang/Object;", sig := { parameters := [(.object "java/lang/Object"), (.object "java/util/function/Function")], returnType := some (.object "java/lang/Object") }, accessFlags := 1, code := some k13c3 }
def k13c4 : Code := { maxStack := 6, maxLocals := 5, code := ⟨#[0xbb, 0x00, 0xa3, 0x59, 0x1b, 0x2c, 0x2d, 0x19, 0x04, 0xb7, 0x01, 0x77, 0xb0]⟩, exceptionTable := #[], attributes := #[] }
def k13m4 : Method := { name := "newNode", desc := "(ILjava/lang/Object;Ljava/lang/Object;Ljava/util/HashMap$Node;)Ljava/util/HashMap$Node;", sig := { parameters := [.int, (.object "java/lang/Object"), (.object "java/lang/Object"), (.object "java/util/HashMap$Node")], returnType := some (.object "java/util/HashMap$Node") }, accessFlags := 0, code := some k13c4 }
def k13c5 : Code := { maxStack := 0, maxLocals := 2, code := ⟨#[0xb1]⟩, exceptionTable := #[], attributes := #[] }
def k13m5 : Method := { name := "afterNodeInsertion", desc := "(Z)V", sig := { parameters := [.boolean], returnType := none }, accessFlags := 0, code := some k13c5 }
/-- java/util/HashMap -/
def k13 : Class := { plain "java/util/HashMap" (some 11) with
  accessFlags := 33
  interfaces := #[10, 12, 2]
  cf := some (fileOf pool13 40 #[.nestMembers #[180, 596, 598, 600, 602, 604, 606, 608, 610, 346, 268, 263, 243, 163]] #[{ accessFlags := 24, nameIndex := 151, descriptorIndex := 33, attributes := #[] }, { accessFlags := 1, nameIndex := 47, descriptorIndex := 48, attributes := #[] }, { accessFlags := 16, nameIndex := 119, descriptorIndex := 120, attributes := #[] }, { accessFlags := 1, nameIndex := 533, descriptorIndex := 534, attributes := #[] }, { accessFlags := 0, nameIndex := 188, descriptorIndex := 189, attributes := #[] }, { accessFlags := 0, nameIndex := 207, descriptorIndex := 208, attributes := #[] }] 33 44 #[101, 392, 394] #[{ accessFlags := 26, nameIndex := 396, descriptorIndex := 397, attributes := #[] }, { accessFlags := 24, nameIndex := 401, descriptorIndex := 91, attributes := #[] }, { accessFlags := 24, nameIndex := 403, descriptorIndex := 91, attributes := #[] }, { accessFlags := 24, nameIndex := 404, descriptorIndex := 84, attributes := #[] }, { accessFlags := 24, nameIndex := 405, descriptorIndex := 91, attributes := #[] }, { accessFlags := 24, nameIndex := 407, descriptorIndex := 91, attributes := #[] }, { accessFlags := 24, nameIndex := 409, descriptorIndex := 91, attributes := #[] }, { accessFlags := 128, nameIndex := 107, descriptorIndex := 108, attributes := #[] }, { accessFlags := 128, nameIndex := 123, descriptorIndex := 242, attributes := #[] }, { accessFlags := 128, nameIndex := 104, descriptorIndex := 91, attributes := #[] }, { accessFlags := 128, nameIndex := 204, descriptorIndex := 91, attributes := #[] }, { accessFlags := 0, nameIndex := 90, descriptorIndex := 91, attributes := #[] }, { accessFlags := 16, nameIndex := 83, descriptorIndex := 84, attributes := #[] }])
  fields := #[{ name := "serialVersionUID", type := .long, accessFlags := 26, slot := 0, constantValue := 0 }, { name := "DEFAULT_INITIAL_CAPACITY", type := .int, accessFlags := 24, slot := 1, constantValue := 0 }, { name := "MAXIMUM_CAPACITY", type := .int, accessFlags := 24, slot := 2, constantValue := 0 }, { name := "DEFAULT_LOAD_FACTOR", type := .float, accessFlags := 24, slot := 3, constantValue := 0 }, { name := "TREEIFY_THRESHOLD", type := .int, accessFlags := 24, slot := 4, constantValue := 0 }, { name := "UNTREEIFY_THRESHOLD", type := .int, accessFlags := 24, slot := 5, constantValue := 0 }, { name := "MIN_TREEIFY_CAPACITY", type := .int, accessFlags := 24, slot := 6, constantValue := 0 }, { name := "table", type := (.array (.object "java/util/HashMap$Node")), accessFlags := 128, slot := 2, constantValue := 0 }, { name := "entrySet", type := (.object "java/util/Set"), accessFlags := 128, slot := 3, constantValue := 0 }, { name := "size", type := .int, accessFlags := 128, slot := 4, constantValue := 0 }, { name := "modCount", type := .int, accessFlags := 128, slot := 5, constantValue := 0 }, { name := "threshold", type := .int, accessFlags := 0, slot := 6, constantValue := 0 }, { name := "loadFactor", type := .float, accessFlags := 16, slot := 7, constantValue := 0 }]
  methods := #[k13m0, k13m1, k13m2, k13m3, k13m4, k13m5]
  instanceTypes := #[(.object "java/util/Set"), (.object "java/util/Collection"), (.array (.object "java/util/HashMap$Node")), (.object "java/util/Set"), .int, .int, .int, .float]
  staticTypes := #[.long, .int, .int, .float, .int, .int, .int]
  resolved := Array.replicate 629 none
  statics := none }

def pool14 : Array CpInfo := pool [(2, .class_ 4), (1, u "java/util/SequencedMap"), (38, .class_ 44), (0, u "java/util/SequencedMap$1SeqKeySet"), (3, .class_ 49), (0, u "java/util/SequencedMap$1SeqValues"), (1, .class_ 52), (0, u "java/util/SequencedMap$1SeqEntrySet"), (1, .class_ 55), (0, u "java/lang/Object"), (0, .class_ 57), (0, u "java/util/Map")] 48

/-- java/util/SequencedMap -/
def k14 : Class := { plain "java/util/SequencedMap" (some 0) with
  accessFlags := 1537
  interfaces := #[10]
  cf := some (fileOf pool14 2 #[.nestMembers #[51, 48, 43]] #[] 1537 54 #[56] #[])
  fields := #[]
  methods := #[]
  instanceTypes := #[]
  staticTypes := #[]
  resolved := Array.replicate 106 none
  statics := none }

def pool15 : Array CpInfo := pool [(1, .fieldref 2 3), (0, .class_ 4), (0, .nameAndType 5 6), (0, u "java/util/LinkedHashMap"), (0, u "putMode"), (0, u "I"), (0, .fieldref 2 8), (0, .nameAndType 9 10), (0, u "head"), (0, u "Ljava/util/LinkedHashMap$Entry;"), (0, .fieldref 2 12), (0, .nameAndType 13 10), (0, u "tail"), (1, .class_ 17), (1, u "java/util/LinkedHashMap$Entry"), (5, .class_ 25), (1, u "java/util/HashMap"), (1, u "()V"), (0, .methodref 15 29), (0, .nameAndType 30 31), (0, u "<init>"), (0, u "(ILjava/lang/Object;Ljava/lang/Object;Ljava/util/HashMap$Node;)V"), (0, .methodref 2 33), (0, .nameAndType 34 35), (0, u "linkNodeAtEnd"), (0, u "(Ljava/util/LinkedHashMap$Entry;)V"), (17, .methodref 2 54), (0, .nameAndType 55 56), (0, u "removeEldestEntry"), (0, u "(Ljava/util/Map$Entry;)Z"), (7, .fieldref 2 65), (0, .nameAndType 66 67), (0, u "accessOrder"), (0, u "Z"), (19, .methodref 23 88), (0, .nameAndType 30 27), (32, .class_ 122), (0, u "java/util/LinkedHashMap$LinkedKeySet"), (20, .class_ 144), (0, u "java/util/LinkedHashMap$LinkedValues"), (9, .class_ 155), (0, u "java/util/LinkedHashMap$LinkedEntrySet"), (44, .class_ 201), (0, u "java/util/LinkedHashMap$ReversedLinkedHashMapView"), (3, .class_ 206), (0, u "java/util/SequencedMap"), (0, u "serialVersionUID"), (0, u "J"), (5, u "PUT_NORM"), (1, u "PUT_FIRST"), (1, u "PUT_LAST"), (18, u "newNode"), (0, u "(ILjava/lang/Object;Ljava/lang/Object;Ljava/util/HashMap$Node;)Ljava/util/HashMap$Node;"), (22, u "afterNodeInsertion"), (0, u "(Z)V"), (99, .class_ 363), (0, u "java/util/LinkedHashMap$LinkedEntryIterator"), (0, .class_ 365), (0, u "java/util/LinkedHashMap$LinkedValueIterator"), (0, .class_ 367), (0, u "java/util/LinkedHashMap$LinkedKeyIterator"), (0, .class_ 369), (0, u "java/util/LinkedHashMap$LinkedHashIterator")] 16

def k15c0 : Code := { maxStack := 2, maxLocals := 3, code := jdk_94_method_1_code, exceptionTable := #[], attributes := #[] }
def k15m0 : Method := { name := "linkNodeAtEnd", desc := "(Ljava/util/LinkedHashMap$Entry;)V", sig := { parameters := [(.object "java/util/LinkedHashMap$Entry")], returnType := none }, accessFlags := 2, code := some k15c0 }
def k15c1 : Code := { maxStack := 6, maxLocals := 6, code := jdk_94_method_4_code, exceptionTable := #[], attributes := #[] }
def k15m1 : Method := { name := "newNode", desc := "(ILjava/lang/Object;Ljava/lang/Object;Ljava/util/HashMap$Node;)Ljava/util/HashMap$Node;", sig := { parameters := [.int, (.object "java/lang/Object"), (.object "java/lang/Object"), (.object "java/util/HashMap$Node")], returnType := some (.object "java/util/HashMap$Node") }, accessFlags := 0, code := some k15c1 }
def k15c2 : Code := { maxStack := 6, maxLocals := 4, code := jdk_94_method_9_code, exceptionTable := #[], attributes := #[] }
def k15m2 : Method := { name := "afterNodeInsertion", desc := "(Z)V", sig := { parameters := [.boolean], returnType := none }, accessFlags := 0, code := some k15c2 }
def k15c3 : Code := { maxStack := 2, maxLocals := 1, code := jdk_94_method_16_code, exceptionTable := #[], attributes := #[] }
def k15m3 : Method := { name := "<init>", desc := "()V", sig := { parameters := [], returnType := none }, accessFlags := 1, code := some k15c3 }
def k15c4 : Code := { maxStack := 1, maxLocals := 2, code := jdk_94_method_23_code, exceptionTable := #[], attributes := #[] }
def k15m4 : Method := { name := "removeEldestEntry", desc := "(Ljava/util/Map$Entry;)Z", sig := { parameters := [(.object "java/util/Map$Entry")], returnType := some .boolean }, accessFlags := 4, code := some k15c4 }
/-- java/util/LinkedHashMap -/
def k15 : Class := { plain "java/util/LinkedHashMap" (some 13) with
  accessFlags := 33
  interfaces := #[14]
  cf := some (fileOf pool15 2 #[.nestMembers #[200, 362, 364, 366, 368, 154, 143, 121, 15]] #[{ accessFlags := 2, nameIndex := 34, descriptorIndex := 35, attributes := #[] }, { accessFlags := 0, nameIndex := 237, descriptorIndex := 238, attributes := #[] }, { accessFlags := 0, nameIndex := 261, descriptorIndex := 262, attributes := #[] }, { accessFlags := 1, nameIndex := 30, descriptorIndex := 27, attributes := #[] }, { accessFlags := 4, nameIndex := 55, descriptorIndex := 56, attributes := #[] }] 33 23 #[205] #[{ accessFlags := 26, nameIndex := 207, descriptorIndex := 208, attributes := #[] }, { accessFlags := 128, nameIndex := 9, descriptorIndex := 10, attributes := #[] }, { accessFlags := 128, nameIndex := 13, descriptorIndex := 10, attributes := #[] }, { accessFlags := 16, nameIndex := 66, descriptorIndex := 67, attributes := #[] }, { accessFlags := 24, nameIndex := 214, descriptorIndex := 6, attributes := #[] }, { accessFlags := 24, nameIndex := 216, descriptorIndex := 6, attributes := #[] }, { accessFlags := 24, nameIndex := 218, descriptorIndex := 6, attributes := #[] }, { accessFlags := 128, nameIndex := 5, descriptorIndex := 6, attributes := #[] }])
  fields := #[{ name := "serialVersionUID", type := .long, accessFlags := 26, slot := 0, constantValue := 0 }, { name := "head", type := (.object "java/util/LinkedHashMap$Entry"), accessFlags := 128, slot := 8, constantValue := 0 }, { name := "tail", type := (.object "java/util/LinkedHashMap$Entry"), accessFlags := 128, slot := 9, constantValue := 0 }, { name := "accessOrder", type := .boolean, accessFlags := 16, slot := 10, constantValue := 0 }, { name := "PUT_NORM", type := .int, accessFlags := 24, slot := 1, constantValue := 0 }, { name := "PUT_FIRST", type := .int, accessFlags := 24, slot := 2, constantValue := 0 }, { name := "PUT_LAST", type := .int, accessFlags := 24, slot := 3, constantValue := 0 }, { name := "putMode", type := .int, accessFlags := 128, slot := 11, constantValue := 0 }]
  methods := #[k15m0, k15m1, k15m2, k15m3, k15m4]
  instanceTypes := #[(.object "java/util/Set"), (.object "java/util/Collection"), (.array (.object "java/util/HashMap$Node")), (.object "java/util/Set"), .int, .int, .int, .float, (.object "java/util/LinkedHashMap$Entry"), (.object "java/util/LinkedHashMap$Entry"), .boolean, .int]
  staticTypes := #[.long, .int, .int, .int]
  resolved := Array.replicate 386 none
  statics := none }

def pool16 : Array CpInfo := pool [(8, .class_ 10), (1, u "java/lang/Iterable"), (24, .class_ 36), (0, u "java/lang/Object")] 25

/-- java/lang/Iterable -/
def k16 : Class := { plain "java/lang/Iterable" (some 0) with
  accessFlags := 1537
  interfaces := #[]
  cf := some (fileOf pool16 8 #[] #[] 1537 35 #[] #[])
  fields := #[]
  methods := #[]
  instanceTypes := #[]
  staticTypes := #[]
  resolved := Array.replicate 62 none
  statics := none }

def pool17 : Array CpInfo := pool [(10, .class_ 12), (1, u "java/util/Collection"), (47, .class_ 61), (0, u "java/lang/Object"), (0, .class_ 63), (0, u "java/lang/Iterable")] 51

/-- java/util/Collection -/
def k17 : Class := { plain "java/util/Collection" (some 0) with
  accessFlags := 1537
  interfaces := #[16]
  cf := some (fileOf pool17 10 #[] #[] 1537 60 #[62] #[])
  fields := #[]
  methods := #[]
  instanceTypes := #[]
  staticTypes := #[]
  resolved := Array.replicate 115 none
  statics := none }

def pool18 : Array CpInfo := pool [(8, .class_ 10), (1, u "java/util/SequencedCollection"), (15, .class_ 27), (0, u "java/lang/Object"), (0, .class_ 29), (0, u "java/util/Collection")] 27

/-- java/util/SequencedCollection -/
def k18 : Class := { plain "java/util/SequencedCollection" (some 0) with
  accessFlags := 1537
  interfaces := #[17]
  cf := some (fileOf pool18 8 #[] #[] 1537 26 #[28] #[])
  fields := #[]
  methods := #[]
  instanceTypes := #[]
  staticTypes := #[]
  resolved := Array.replicate 57 none
  statics := none }

def pool19 : Array CpInfo := pool [(8, .class_ 10), (1, u "java/util/List"), (77, u "of"), (1, .fieldref 91 92), (0, .class_ 93), (0, .nameAndType 94 95), (0, u "java/util/ImmutableCollections"), (0, u "EMPTY_LIST"), (0, u "Ljava/util/ImmutableCollections$ListN;"), (7, .class_ 104), (0, u "java/lang/Object"), (14, u "()Ljava/util/List;"), (0, .class_ 121), (0, u "java/util/SequencedCollection")] 129

def k19c0 : Code := { maxStack := 1, maxLocals := 0, code := jdk_40_method_36_code, exceptionTable := #[], attributes := #[] }
def k19m0 : Method := { name := "of", desc := "()Ljava/util/List;", sig := { parameters := [], returnType := some (.object "java/util/List") }, accessFlags := 9, code := some k19c0 }
/-- java/util/List -/
def k19 : Class := { plain "java/util/List" (some 0) with
  accessFlags := 1537
  interfaces := #[18]
  cf := some (fileOf pool19 8 #[] #[{ accessFlags := 9, nameIndex := 88, descriptorIndex := 119, attributes := #[] }] 1537 103 #[120] #[])
  fields := #[]
  methods := #[k19m0]
  instanceTypes := #[]
  staticTypes := #[]
  resolved := Array.replicate 251 none
  statics := none }

def pool20 : Array CpInfo := pool [(2, .class_ 4), (1, u "java/lang/Object"), (0, u "<init>"), (0, u "()V"), (3, .class_ 11), (0, u "java/util/ImmutableCollections$List12"), (0, .class_ 13), (0, u "java/util/ImmutableCollections$ListN"), (3, u "Z"), (29, .class_ 49), (1, u "java/util/ImmutableCollections"), (0, u "$assertionsDisabled"), (5, u "[Ljava/lang/Object;"), (5, u "EMPTY_LIST"), (0, u "Ljava/util/ImmutableCollections$ListN;"), (8, u "EMPTY_LIST_NULLS"), (22, u "SALT32L"), (0, u "J"), (2, u "REVERSE"), (6, u "archivedObjects"), (2, u "EMPTY"), (0, u "Ljava/lang/Object;"), (0, .class_ 112), (0, u "java/util/ImmutableCollections$SetN"), (5, u "EMPTY_SET"), (0, u "Ljava/util/ImmutableCollections$SetN;"), (0, .class_ 121), (0, u "java/util/ImmutableCollections$MapN"), (3, u "EMPTY_MAP"), (0, u "Ljava/util/ImmutableCollections$MapN;"), (4, u "EXPAND_FACTOR"), (0, u "I"), (36, .class_ 170), (0, u "java/util/ImmutableCollections$MapN$MapNIterator"), (0, .class_ 172), (0, u "java/util/ImmutableCollections$MapN$1"), (0, .class_ 174), (0, u "java/util/ImmutableCollections$Map1"), (0, .class_ 176), (0, u "java/util/ImmutableCollections$AbstractImmutableMap"), (0, .class_ 178), (0, u "java/util/ImmutableCollections$SetN$SetNIterator"), (0, .class_ 180), (0, u "java/util/ImmutableCollections$Set12"), (0, .class_ 182), (0, u "java/util/ImmutableCollections$Set12$1"), (0, .class_ 184), (0, u "java/util/ImmutableCollections$AbstractImmutableSet"), (0, .class_ 186), (0, u "java/util/ImmutableCollections$SubList"), (0, .class_ 188), (0, u "java/util/ImmutableCollections$ListItr"), (0, .class_ 190), (0, u "java/util/ImmutableCollections$AbstractImmutableList"), (0, .class_ 192), (0, u "java/util/ImmutableCollections$AbstractImmutableCollection"), (0, .class_ 194), (0, u "java/util/ImmutableCollections$Access"), (0, .class_ 196), (0, u "java/util/ImmutableCollections$Access$1")] 16

def k20m0 : Method := { name := "<init>", desc := "()V", sig := { parameters := [], returnType := none }, accessFlags := 2, code := none }
/-- java/util/ImmutableCollections -/
def k20 : Class := { plain "java/util/ImmutableCollections" (some 0) with
  accessFlags := 32
  interfaces := #[]
  cf := some (fileOf pool20 47 #[.nestMembers #[120, 169, 171, 173, 175, 111, 177, 179, 181, 183, 12, 10, 185, 187, 189, 191, 193, 195]] #[{ accessFlags := 2, nameIndex := 5, descriptorIndex := 6, attributes := #[] }] 32 2 #[] #[{ accessFlags := 26, nameIndex := 95, descriptorIndex := 96, attributes := #[] }, { accessFlags := 26, nameIndex := 99, descriptorIndex := 17, attributes := #[] }, { accessFlags := 10, nameIndex := 106, descriptorIndex := 56, attributes := #[] }, { accessFlags := 26, nameIndex := 109, descriptorIndex := 110, attributes := #[] }, { accessFlags := 24, nameIndex := 62, descriptorIndex := 63, attributes := #[] }, { accessFlags := 24, nameIndex := 72, descriptorIndex := 63, attributes := #[] }, { accessFlags := 24, nameIndex := 118, descriptorIndex := 119, attributes := #[] }, { accessFlags := 24, nameIndex := 125, descriptorIndex := 126, attributes := #[] }, { accessFlags := 24, nameIndex := 131, descriptorIndex := 132, attributes := #[] }, { accessFlags := 4120, nameIndex := 50, descriptorIndex := 17, attributes := #[] }])
  fields := #[{ name := "SALT32L", type := .long, accessFlags := 26, slot := 0, constantValue := 0 }, { name := "REVERSE", type := .boolean, accessFlags := 26, slot := 1, constantValue := 0 }, { name := "archivedObjects", type := (.array (.object "java/lang/Object")), accessFlags := 10, slot := 2, constantValue := 0 }, { name := "EMPTY", type := (.object "java/lang/Object"), accessFlags := 26, slot := 3, constantValue := 0 }, { name := "EMPTY_LIST", type := (.object "java/util/ImmutableCollections$ListN"), accessFlags := 24, slot := 4, constantValue := 0 }, { name := "EMPTY_LIST_NULLS", type := (.object "java/util/ImmutableCollections$ListN"), accessFlags := 24, slot := 5, constantValue := 0 }, { name := "EMPTY_SET", type := (.object "java/util/ImmutableCollections$SetN"), accessFlags := 24, slot := 6, constantValue := 0 }, { name := "EMPTY_MAP", type := (.object "java/util/ImmutableCollections$MapN"), accessFlags := 24, slot := 7, constantValue := 0 }, { name := "EXPAND_FACTOR", type := .int, accessFlags := 24, slot := 8, constantValue := 0 }, { name := "$assertionsDisabled", type := .boolean, accessFlags := 4120, slot := 9, constantValue := 0 }]
  methods := #[k20m0]
  instanceTypes := #[]
  staticTypes := #[.long, .boolean, (.array (.object "java/lang/Object")), (.object "java/lang/Object"), (.object "java/util/ImmutableCollections$ListN"), (.object "java/util/ImmutableCollections$ListN"), (.object "java/util/ImmutableCollections$SetN"), (.object "java/util/ImmutableCollections$MapN"), .int, .boolean]
  resolved := Array.replicate 213 none
  statics := some 1 }

def pool21 : Array CpInfo := pool [(1, .methodref 2 3), (0, .class_ 4), (0, .nameAndType 5 6), (0, u "java/lang/Object"), (0, u "<init>"), (0, u "()V"), (0, .class_ 8), (0, u "java/lang/Record")] 13

def k21c0 : Code := { maxStack := 1, maxLocals := 1, code := jdk_30_method_1_code, exceptionTable := #[], attributes := #[] }
def k21m0 : Method := { name := "<init>", desc := "()V", sig := { parameters := [], returnType := none }, accessFlags := 4, code := some k21c0 }
/-- java/lang/Record -/
def k21 : Class := { plain "java/lang/Record" (some 0) with
  accessFlags := 1057
  interfaces := #[]
  cf := some (fileOf pool21 7 #[] #[{ accessFlags := 4, nameIndex := 5, descriptorIndex := 6, attributes := #[] }] 1057 2 #[] #[])
  fields := #[]
  methods := #[k21m0]
  instanceTypes := #[]
  staticTypes := #[]
  resolved := Array.replicate 22 none
  statics := none }

def pool22 : Array CpInfo := pool [(1, .methodref 2 3), (0, .class_ 4), (0, .nameAndType 5 6), (0, u "java/lang/Record"), (0, u "<init>"), (0, u "()V"), (0, .fieldref 8 9), (0, .class_ 10), (0, .nameAndType 11 12), (0, u "com/example/mandoline/mandoline/Place$Field"), (0, u "key"), (0, u "Ljava/lang/String;"), (0, .fieldref 8 14), (0, .nameAndType 15 12), (0, u "name"), (12, u "(Ljava/lang/String;Ljava/lang/String;)V"), (3, u "()Ljava/lang/String;"), (5, .class_ 39), (0, u "com/example/mandoline/mandoline/Place")] 20

def k22c0 : Code := { maxStack := 2, maxLocals := 3, code := prog_39_method_1_code, exceptionTable := #[], attributes := #[] }
def k22m0 : Method := { name := "<init>", desc := "(Ljava/lang/String;Ljava/lang/String;)V", sig := { parameters := [(.object "java/lang/String"), (.object "java/lang/String")], returnType := none }, accessFlags := 0, code := some k22c0 }
def k22c1 : Code := { maxStack := 1, maxLocals := 1, code := prog_39_method_5_code, exceptionTable := #[], attributes := #[] }
def k22m1 : Method := { name := "key", desc := "()Ljava/lang/String;", sig := { parameters := [], returnType := some (.object "java/lang/String") }, accessFlags := 1, code := some k22c1 }
def k22c2 : Code := { maxStack := 1, maxLocals := 1, code := prog_39_method_6_code, exceptionTable := #[], attributes := #[] }
def k22m2 : Method := { name := "name", desc := "()Ljava/lang/String;", sig := { parameters := [], returnType := some (.object "java/lang/String") }, accessFlags := 1, code := some k22c2 }
/-- com/example/mandoline/mandoline/Place$Field -/
def k22 : Class := { plain "com/example/mandoline/mandoline/Place$Field" (some 21) with
  accessFlags := 48
  interfaces := #[]
  cf := some (fileOf pool22 8 #[.nestHost 38] #[{ accessFlags := 0, nameIndex := 5, descriptorIndex := 28, attributes := #[] }, { accessFlags := 1, nameIndex := 11, descriptorIndex := 32, attributes := #[] }, { accessFlags := 1, nameIndex := 15, descriptorIndex := 32, attributes := #[] }] 48 2 #[] #[{ accessFlags := 18, nameIndex := 11, descriptorIndex := 12, attributes := #[] }, { accessFlags := 18, nameIndex := 15, descriptorIndex := 12, attributes := #[] }])
  fields := #[{ name := "key", type := (.object "java/lang/String"), accessFlags := 18, slot := 0, constantValue := 0 }, { name := "name", type := (.object "java/lang/String"), accessFlags := 18, slot := 1, constantValue := 0 }]
  methods := #[k22m0, k22m1, k22m2]
  instanceTypes := #[(.object "java/lang/String"), (.object "java/lang/String")]
  staticTypes := #[]
  resolved := Array.replicate 60 none
  statics := none }

def pool23 : Array CpInfo := pool [(6, u "(Ljava/lang/Object;)Ljava/lang/Object;"), (2, u "apply"), (6, .class_ 18), (1, u "java/util/function/Function"), (0, .class_ 20), (0, u "java/lang/Object")] 56

def k23m0 : Method := { name := "apply", desc := "(Ljava/lang/Object;)Ljava/lang/Object;", sig := { parameters := [(.object "java/lang/Object")], returnType := some (.object "java/lang/Object") }, accessFlags := 1025, code := none }
/-- java/util/function/Function -/
def k23 : Class := { plain "java/util/function/Function" (some 0) with
  accessFlags := 1537
  interfaces := #[]
  cf := some (fileOf pool23 16 #[] #[{ accessFlags := 1025, nameIndex := 9, descriptorIndex := 6, attributes := #[] }] 1537 19 #[] #[])
  fields := #[]
  methods := #[k23m0]
  instanceTypes := #[]
  staticTypes := #[]
  resolved := Array.replicate 77 none
  statics := none }

def pool24 : Array CpInfo := pool [(4, .class_ 6), (1, u "java/lang/Object"), (0, u "<init>"), (0, u "()V"), (5, .class_ 16), (1, u "java/lang/StringLatin1"), (28, .class_ 47), (1, u "jdk/internal/util/ArraysSupport"), (9, u "([B)I"), (26, .methodref 45 85), (0, .nameAndType 86 87), (0, u "vectorizedHashCode"), (0, u "(Ljava/lang/Object;IIII)I"), (33, u "$assertionsDisabled"), (0, u "Z"), (98, .class_ 223), (1, u "java/lang/StringLatin1$LinesSpliterator"), (74, u "hashCode"), (91, .class_ 391), (0, u "java/lang/StringLatin1$CharsSpliterator")] 3

def k24m0 : Method := { name := "<init>", desc := "()V", sig := { parameters := [], returnType := none }, accessFlags := 0, code := none }
def k24c1 : Code := { maxStack := 5, maxLocals := 1, code := jdk_43_method_21_code, exceptionTable := #[], attributes := #[] }
def k24m1 : Method := { name := "hashCode", desc := "([B)I", sig := { parameters := [(.array .byte)], returnType := some .int }, accessFlags := 9, code := some k24c1 }
/-- java/lang/StringLatin1 -/
def k24 : Class := { plain "java/lang/StringLatin1" (some 0) with
  accessFlags := 48
  interfaces := #[]
  cf := some (fileOf pool24 14 #[.nestMembers #[390, 221]] #[{ accessFlags := 0, nameIndex := 7, descriptorIndex := 8, attributes := #[] }, { accessFlags := 9, nameIndex := 298, descriptorIndex := 57, attributes := #[] }] 48 4 #[] #[{ accessFlags := 4120, nameIndex := 121, descriptorIndex := 122, attributes := #[] }])
  fields := #[{ name := "$assertionsDisabled", type := .boolean, accessFlags := 4120, slot := 0, constantValue := 0 }]
  methods := #[k24m0, k24m1]
  instanceTypes := #[]
  staticTypes := #[.boolean]
  resolved := Array.replicate 395 none
  statics := none }

def pool25 : Array CpInfo := pool [(9, u "<init>"), (6, .class_ 18), (1, u "java/lang/Object"), (0, u "()V"), (1, .class_ 23), (1, u "jdk/internal/util/ArraysSupport"), (0, u "LOG2_ARRAY_LONG_INDEX_SCALE"), (0, u "I"), (2, u "U"), (0, u "Ljdk/internal/misc/Unsafe;"), (8, u "BIG_ENDIAN"), (0, u "Z"), (8, u "LOG2_BYTE_BIT_SIZE"), (4, u "LOG2_ARRAY_INT_INDEX_SCALE"), (6, .class_ 61), (0, u "[B"), (0, .methodref 21 63), (0, .nameAndType 64 65), (0, u "signedHashCode"), (0, u "(I[BII)I"), (42, u "JLA"), (0, u "Ljdk/internal/access/JavaLangAccess;"), (11, u "LOG2_ARRAY_BOOLEAN_INDEX_SCALE"), (9, u "LOG2_ARRAY_BYTE_INDEX_SCALE"), (5, u "LOG2_ARRAY_CHAR_INDEX_SCALE"), (5, u "LOG2_ARRAY_SHORT_INDEX_SCALE"), (18, u "LOG2_ARRAY_FLOAT_INDEX_SCALE"), (24, u "LOG2_ARRAY_DOUBLE_INDEX_SCALE"), (89, u "T_BOOLEAN"), (2, u "T_CHAR"), (1, u "T_FLOAT"), (1, u "T_DOUBLE"), (1, u "T_BYTE"), (1, u "T_SHORT"), (1, u "T_INT"), (1, u "T_LONG"), (1, u "SOFT_MAX_ARRAY_LENGTH"), (26, u "vectorizedHashCode"), (0, u "(Ljava/lang/Object;IIII)I")] 55

def k25m0 : Method := { name := "<init>", desc := "()V", sig := { parameters := [], returnType := none }, accessFlags := 2, code := none }
def k25c1 : Code := { maxStack := 4, maxLocals := 5, code := jdk_48_method_4_code, exceptionTable := #[], attributes := #[] }
def k25m1 : Method := { name := "vectorizedHashCode", desc := "(Ljava/lang/Object;IIII)I", sig := { parameters := [(.object "java/lang/Object"), .int, .int, .int, .int], returnType := some .int }, accessFlags := 9, code := some k25c1 }
def k25c2 : Code := { maxStack := 3, maxLocals := 6, code := jdk_48_method_5_code, exceptionTable := #[], attributes := #[] }
def k25m2 : Method := { name := "signedHashCode", desc := "(I[BII)I", sig := { parameters := [.int, (.array .byte), .int, .int], returnType := some .int }, accessFlags := 10, code := some k25c2 }
/-- jdk/internal/util/ArraysSupport -/
def k25 : Class := { plain "jdk/internal/util/ArraysSupport" (some 0) with
  accessFlags := 33
  interfaces := #[]
  cf := some (fileOf pool25 21 #[] #[{ accessFlags := 2, nameIndex := 9, descriptorIndex := 19, attributes := #[] }, { accessFlags := 9, nameIndex := 321, descriptorIndex := 322, attributes := #[] }, { accessFlags := 10, nameIndex := 64, descriptorIndex := 65, attributes := #[] }] 33 16 #[] #[{ accessFlags := 24, nameIndex := 28, descriptorIndex := 29, attributes := #[] }, { accessFlags := 26, nameIndex := 38, descriptorIndex := 39, attributes := #[] }, { accessFlags := 25, nameIndex := 121, descriptorIndex := 25, attributes := #[] }, { accessFlags := 25, nameIndex := 131, descriptorIndex := 25, attributes := #[] }, { accessFlags := 25, nameIndex := 137, descriptorIndex := 25, attributes := #[] }, { accessFlags := 25, nameIndex := 143, descriptorIndex := 25, attributes := #[] }, { accessFlags := 25, nameIndex := 53, descriptorIndex := 25, attributes := #[] }, { accessFlags := 25, nameIndex := 24, descriptorIndex := 25, attributes := #[] }, { accessFlags := 25, nameIndex := 162, descriptorIndex := 25, attributes := #[] }, { accessFlags := 25, nameIndex := 187, descriptorIndex := 25, attributes := #[] }, { accessFlags := 26, nameIndex := 48, descriptorIndex := 25, attributes := #[] }, { accessFlags := 25, nameIndex := 277, descriptorIndex := 25, attributes := #[] }, { accessFlags := 25, nameIndex := 280, descriptorIndex := 25, attributes := #[] }, { accessFlags := 25, nameIndex := 282, descriptorIndex := 25, attributes := #[] }, { accessFlags := 25, nameIndex := 284, descriptorIndex := 25, attributes := #[] }, { accessFlags := 25, nameIndex := 286, descriptorIndex := 25, attributes := #[] }, { accessFlags := 25, nameIndex := 288, descriptorIndex := 25, attributes := #[] }, { accessFlags := 25, nameIndex := 290, descriptorIndex := 25, attributes := #[] }, { accessFlags := 25, nameIndex := 292, descriptorIndex := 25, attributes := #[] }, { accessFlags := 26, nameIndex := 108, descriptorIndex := 109, attributes := #[] }, { accessFlags := 25, nameIndex := 294, descriptorIndex := 25, attributes := #[] }])
  fields := #[{ name := "U", type := (.object "jdk/internal/misc/Unsafe"), accessFlags := 24, slot := 0, constantValue := 0 }, { name := "BIG_ENDIAN", type := .boolean, accessFlags := 26, slot := 1, constantValue := 0 }, { name := "LOG2_ARRAY_BOOLEAN_INDEX_SCALE", type := .int, accessFlags := 25, slot := 2, constantValue := 0 }, { name := "LOG2_ARRAY_BYTE_INDEX_SCALE", type := .int, accessFlags := 25, slot := 3, constantValue := 0 }, { name := "LOG2_ARRAY_CHAR_INDEX_SCALE", type := .int, accessFlags := 25, slot := 4, constantValue := 0 }, { name := "LOG2_ARRAY_SHORT_INDEX_SCALE", type := .int, accessFlags := 25, slot := 5, constantValue := 0 }, { name := "LOG2_ARRAY_INT_INDEX_SCALE", type := .int, accessFlags := 25, slot := 6, constantValue := 0 }, { name := "LOG2_ARRAY_LONG_INDEX_SCALE", type := .int, accessFlags := 25, slot := 7, constantValue := 0 }, { name := "LOG2_ARRAY_FLOAT_INDEX_SCALE", type := .int, accessFlags := 25, slot := 8, constantValue := 0 }, { name := "LOG2_ARRAY_DOUBLE_INDEX_SCALE", type := .int, accessFlags := 25, slot := 9, constantValue := 0 }, { name := "LOG2_BYTE_BIT_SIZE", type := .int, accessFlags := 26, slot := 10, constantValue := 0 }, { name := "T_BOOLEAN", type := .int, accessFlags := 25, slot := 11, constantValue := 0 }, { name := "T_CHAR", type := .int, accessFlags := 25, slot := 12, constantValue := 0 }, { name := "T_FLOAT", type := .int, accessFlags := 25, slot := 13, constantValue := 0 }, { name := "T_DOUBLE", type := .int, accessFlags := 25, slot := 14, constantValue := 0 }, { name := "T_BYTE", type := .int, accessFlags := 25, slot := 15, constantValue := 0 }, { name := "T_SHORT", type := .int, accessFlags := 25, slot := 16, constantValue := 0 }, { name := "T_INT", type := .int, accessFlags := 25, slot := 17, constantValue := 0 }, { name := "T_LONG", type := .int, accessFlags := 25, slot := 18, constantValue := 0 }, { name := "JLA", type := (.object "jdk/internal/access/JavaLangAccess"), accessFlags := 26, slot := 19, constantValue := 0 }, { name := "SOFT_MAX_ARRAY_LENGTH", type := .int, accessFlags := 25, slot := 20, constantValue := 0 }]
  methods := #[k25m0, k25m1, k25m2]
  instanceTypes := #[]
  staticTypes := #[(.object "jdk/internal/misc/Unsafe"), .boolean, .int, .int, .int, .int, .int, .int, .int, .int, .int, .int, .int, .int, .int, .int, .int, .int, .int, (.object "jdk/internal/access/JavaLangAccess"), .int]
  resolved := Array.replicate 378 none
  statics := none }

def pool26 : Array CpInfo := pool [(23, .class_ 25), (1, u "java/util/Map$Entry"), (6, .class_ 34), (1, u "java/util/Map"), (34, .class_ 70), (0, u "java/lang/Object")] 107

/-- java/util/Map$Entry -/
def k26 : Class := { plain "java/util/Map$Entry" (some 0) with
  accessFlags := 1537
  interfaces := #[]
  cf := some (fileOf pool26 23 #[.nestHost 32] #[] 1537 69 #[] #[])
  fields := #[]
  methods := #[]
  instanceTypes := #[]
  staticTypes := #[]
  resolved := Array.replicate 178 none
  statics := none }

def pool27 : Array CpInfo := pool [(1, .methodref 2 3), (0, .class_ 4), (0, .nameAndType 5 6), (0, u "java/lang/Object"), (0, u "<init>"), (0, u "()V"), (0, .fieldref 8 9), (0, .class_ 10), (0, .nameAndType 11 12), (0, u "java/util/HashMap$Node"), (0, u "hash"), (0, u "I"), (0, .fieldref 8 14), (0, .nameAndType 15 16), (0, u "key"), (0, u "Ljava/lang/Object;"), (0, .fieldref 8 18), (0, .nameAndType 19 16), (0, u "value"), (0, .fieldref 8 21), (0, .nameAndType 22 23), (0, u "next"), (0, u "Ljava/util/HashMap$Node;"), (22, .class_ 47), (0, u "java/util/Map$Entry"), (15, u "(ILjava/lang/Object;Ljava/lang/Object;Ljava/util/HashMap$Node;)V"), (24, .class_ 89), (0, u "java/util/HashMap")] 5

def k27c0 : Code := { maxStack := 2, maxLocals := 5, code := jdk_70_method_1_code, exceptionTable := #[], attributes := #[] }
def k27m0 : Method := { name := "<init>", desc := "(ILjava/lang/Object;Ljava/lang/Object;Ljava/util/HashMap$Node;)V", sig := { parameters := [.int, (.object "java/lang/Object"), (.object "java/lang/Object"), (.object "java/util/HashMap$Node")], returnType := none }, accessFlags := 0, code := some k27c0 }
/-- java/util/HashMap$Node -/
def k27 : Class := { plain "java/util/HashMap$Node" (some 0) with
  accessFlags := 32
  interfaces := #[26]
  cf := some (fileOf pool27 8 #[.nestHost 88] #[{ accessFlags := 0, nameIndex := 5, descriptorIndex := 63, attributes := #[] }] 32 2 #[46] #[{ accessFlags := 16, nameIndex := 11, descriptorIndex := 12, attributes := #[] }, { accessFlags := 16, nameIndex := 15, descriptorIndex := 16, attributes := #[] }, { accessFlags := 0, nameIndex := 19, descriptorIndex := 16, attributes := #[] }, { accessFlags := 0, nameIndex := 22, descriptorIndex := 23, attributes := #[] }])
  fields := #[{ name := "hash", type := .int, accessFlags := 16, slot := 0, constantValue := 0 }, { name := "key", type := (.object "java/lang/Object"), accessFlags := 16, slot := 1, constantValue := 0 }, { name := "value", type := (.object "java/lang/Object"), accessFlags := 0, slot := 2, constantValue := 0 }, { name := "next", type := (.object "java/util/HashMap$Node"), accessFlags := 0, slot := 3, constantValue := 0 }]
  methods := #[k27m0]
  instanceTypes := #[.int, (.object "java/lang/Object"), (.object "java/lang/Object"), (.object "java/util/HashMap$Node")]
  staticTypes := #[]
  resolved := Array.replicate 95 none
  statics := none }

def pool28 : Array CpInfo := pool [(1, .methodref 2 3), (0, .class_ 4), (0, .nameAndType 5 6), (0, u "java/util/HashMap$Node"), (0, u "<init>"), (0, u "(ILjava/lang/Object;Ljava/lang/Object;Ljava/util/HashMap$Node;)V"), (0, .class_ 8), (0, u "java/util/LinkedHashMap$Entry"), (0, u "before"), (0, u "Ljava/util/LinkedHashMap$Entry;"), (2, u "after"), (20, .class_ 35), (0, u "java/util/LinkedHashMap")] 5

def k28c0 : Code := { maxStack := 5, maxLocals := 5, code := jdk_83_method_1_code, exceptionTable := #[], attributes := #[] }
def k28m0 : Method := { name := "<init>", desc := "(ILjava/lang/Object;Ljava/lang/Object;Ljava/util/HashMap$Node;)V", sig := { parameters := [.int, (.object "java/lang/Object"), (.object "java/lang/Object"), (.object "java/util/HashMap$Node")], returnType := none }, accessFlags := 0, code := some k28c0 }
/-- java/util/LinkedHashMap$Entry -/
def k28 : Class := { plain "java/util/LinkedHashMap$Entry" (some 27) with
  accessFlags := 32
  interfaces := #[]
  cf := some (fileOf pool28 7 #[.nestHost 34] #[{ accessFlags := 0, nameIndex := 5, descriptorIndex := 6, attributes := #[] }] 32 2 #[] #[{ accessFlags := 0, nameIndex := 9, descriptorIndex := 10, attributes := #[] }, { accessFlags := 0, nameIndex := 13, descriptorIndex := 10, attributes := #[] }])
  fields := #[{ name := "before", type := (.object "java/util/LinkedHashMap$Entry"), accessFlags := 0, slot := 4, constantValue := 0 }, { name := "after", type := (.object "java/util/LinkedHashMap$Entry"), accessFlags := 0, slot := 5, constantValue := 0 }]
  methods := #[k28m0]
  instanceTypes := #[.int, (.object "java/lang/Object"), (.object "java/lang/Object"), (.object "java/util/HashMap$Node"), (.object "java/util/LinkedHashMap$Entry"), (.object "java/util/LinkedHashMap$Entry")]
  staticTypes := #[]
  resolved := Array.replicate 41 none
  statics := none }

def pool29 : Array CpInfo := pool [(1, .class_ 2), (0, u "java/lang/Appendable"), (0, .class_ 4), (0, u "java/lang/Object")] 9

/-- java/lang/Appendable -/
def k29 : Class := { plain "java/lang/Appendable" (some 0) with
  accessFlags := 1537
  interfaces := #[]
  cf := some (fileOf pool29 1 #[] #[] 1537 3 #[] #[])
  fields := #[]
  methods := #[]
  instanceTypes := #[]
  staticTypes := #[]
  resolved := Array.replicate 14 none
  statics := none }

def pool30 : Array CpInfo := pool [(1, .class_ 2), (0, u "java/lang/String"), (0, .methodref 4 5), (0, .class_ 6), (0, .nameAndType 7 8), (0, u "java/lang/Object"), (0, u "<init>"), (0, u "()V"), (1, .class_ 12), (1, u "java/lang/AbstractStringBuilder"), (0, u "EMPTYVALUE"), (0, u "[B"), (0, .fieldref 10 16), (0, .nameAndType 17 14), (0, u "value"), (0, .fieldref 1 19), (0, .nameAndType 20 21), (0, u "COMPACT_STRINGS"), (0, u "Z"), (0, .fieldref 10 23), (0, .nameAndType 24 25), (0, u "coder"), (0, u "B"), (6, .methodref 1 33), (0, .nameAndType 34 35), (0, u "length"), (0, u "()I"), (4, .methodref 1 41), (0, .nameAndType 24 42), (0, u "()B"), (2, u "append"), (0, u "(Ljava/lang/String;)Ljava/lang/AbstractStringBuilder;"), (1, .class_ 49), (0, u "java/lang/CharSequence"), (19, u "(Ljava/lang/String;)V"), (5, u "maybeLatin1"), (3, .fieldref 10 80), (0, .nameAndType 81 82), (0, u "count"), (0, u "I"), (2, u "isLatin1"), (0, u "()Z"), (13, .methodref 10 101), (0, .nameAndType 102 103), (0, u "ensureCapacityInternal"), (0, u "(I)V"), (104, .methodref 10 209), (0, .nameAndType 210 211), (0, u "putStringAt"), (0, u "(ILjava/lang/String;)V"), (5, u "inflateIfNeededFor"), (2, .nameAndType 221 222), (0, u "getBytes"), (0, u "([BIB)V"), (174, .methodref 10 398), (0, .nameAndType 217 69), (0, .methodref 1 220), (3, u "()[B"), (40, .class_ 445), (0, u "java/lang/Appendable"), (106, u "getValue")] 56

def k30m0 : Method := { name := "<init>", desc := "()V", sig := { parameters := [], returnType := none }, accessFlags := 0, code := none }
def k30c1 : Code := { maxStack := 2, maxLocals := 2, code := jdk_68_method_2_code, exceptionTable := #[], attributes := #[] }
def k30m1 : Method := { name := "<init>", desc := "(I)V", sig := { parameters := [.int], returnType := none }, accessFlags := 0, code := some k30c1 }
def k30c2 : Code := { maxStack := 1, maxLocals := 1, code := jdk_68_method_6_code, exceptionTable := #[], attributes := #[] }
def k30m2 : Method := { name := "length", desc := "()I", sig := { parameters := [], returnType := some .int }, accessFlags := 1, code := some k30c2 }
def k30c3 : Code := { maxStack := 4, maxLocals := 3, code := jdk_68_method_9_code, exceptionTable := #[], attributes := #[] }
def k30m3 : Method := { name := "ensureCapacityInternal", desc := "(I)V", sig := { parameters := [.int], returnType := none }, accessFlags := 2, code := some k30c3 }
def k30c4 : Code := { maxStack := 3, maxLocals := 3, code := jdk_68_method_22_code, exceptionTable := #[], attributes := #[] }
def k30m4 : Method := { name := "append", desc := "(Ljava/lang/String;)Ljava/lang/AbstractStringBuilder;", sig := { parameters := [(.object "java/lang/String")], returnType := some (.object "java/lang/AbstractStringBuilder") }, accessFlags := 1, code := some k30c4 }
def k30c5 : Code := { maxStack := 1, maxLocals := 1, code := jdk_68_method_64_code, exceptionTable := #[], attributes := #[] }
def k30m5 : Method := { name := "getValue", desc := "()[B", sig := { parameters := [], returnType := some (.array .byte) }, accessFlags := 16, code := some k30c5 }
def k30c6 : Code := { maxStack := 1, maxLocals := 1, code := jdk_68_method_68_code, exceptionTable := #[], attributes := #[] }
def k30m6 : Method := { name := "isLatin1", desc := "()Z", sig := { parameters := [], returnType := some .boolean }, accessFlags := 16, code := some k30c6 }
def k30c7 : Code := { maxStack := 2, maxLocals := 2, code := jdk_68_method_71_code, exceptionTable := #[], attributes := #[] }
def k30m7 : Method := { name := "inflateIfNeededFor", desc := "(Ljava/lang/String;)V", sig := { parameters := [(.object "java/lang/String")], returnType := none }, accessFlags := 2, code := some k30c7 }
def k30c8 : Code := { maxStack := 4, maxLocals := 3, code := jdk_68_method_73_code, exceptionTable := #[], attributes := #[] }
def k30m8 : Method := { name := "putStringAt", desc := "(ILjava/lang/String;)V", sig := { parameters := [.int, (.object "java/lang/String")], returnType := none }, accessFlags := 2, code := some k30c8 }
/-- java/lang/AbstractStringBuilder -/
def k30 : Class := { plain "java/lang/AbstractStringBuilder" (some 0) with
  accessFlags := 1056
  interfaces := #[29, 4]
  cf := some (fileOf pool30 10 #[] #[{ accessFlags := 0, nameIndex := 7, descriptorIndex := 8, attributes := #[] }, { accessFlags := 0, nameIndex := 7, descriptorIndex := 103, attributes := #[] }, { accessFlags := 1, nameIndex := 34, descriptorIndex := 35, attributes := #[] }, { accessFlags := 2, nameIndex := 102, descriptorIndex := 103, attributes := #[] }, { accessFlags := 1, nameIndex := 45, descriptorIndex := 46, attributes := #[] }, { accessFlags := 16, nameIndex := 552, descriptorIndex := 403, attributes := #[] }, { accessFlags := 16, nameIndex := 85, descriptorIndex := 86, attributes := #[] }, { accessFlags := 2, nameIndex := 217, descriptorIndex := 69, attributes := #[] }, { accessFlags := 2, nameIndex := 210, descriptorIndex := 211, attributes := #[] }] 1056 4 #[444, 48] #[{ accessFlags := 0, nameIndex := 17, descriptorIndex := 14, attributes := #[] }, { accessFlags := 0, nameIndex := 24, descriptorIndex := 25, attributes := #[] }, { accessFlags := 0, nameIndex := 75, descriptorIndex := 21, attributes := #[] }, { accessFlags := 0, nameIndex := 81, descriptorIndex := 82, attributes := #[] }, { accessFlags := 26, nameIndex := 13, descriptorIndex := 14, attributes := #[] }])
  fields := #[{ name := "value", type := (.array .byte), accessFlags := 0, slot := 0, constantValue := 0 }, { name := "coder", type := .byte, accessFlags := 0, slot := 1, constantValue := 0 }, { name := "maybeLatin1", type := .boolean, accessFlags := 0, slot := 2, constantValue := 0 }, { name := "count", type := .int, accessFlags := 0, slot := 3, constantValue := 0 }, { name := "EMPTYVALUE", type := (.array .byte), accessFlags := 26, slot := 0, constantValue := 0 }]
  methods := #[k30m0, k30m1, k30m2, k30m3, k30m4, k30m5, k30m6, k30m7, k30m8]
  instanceTypes := #[(.array .byte), .byte, .boolean, .int]
  staticTypes := #[(.array .byte)]
  resolved := Array.replicate 609 none
  statics := none }

def pool31 : Array CpInfo := pool [(1, .methodref 2 3), (0, .class_ 4), (0, .nameAndType 5 6), (0, u "java/lang/AbstractStringBuilder"), (0, u "<init>"), (0, u "(I)V"), (11, .class_ 20), (1, u "java/lang/String"), (3, .class_ 26), (1, u "java/lang/StringBuilder"), (0, u "append"), (0, u "(Ljava/lang/String;)Ljava/lang/StringBuilder;"), (0, .methodref 2 30), (0, .nameAndType 27 31), (0, u "(Ljava/lang/String;)Ljava/lang/AbstractStringBuilder;"), (105, .methodref 18 138), (0, .nameAndType 5 139), (0, u "(Ljava/lang/StringBuilder;)V"), (5, u "()V"), (10, u "()I"), (186, .methodref 2 344), (0, .nameAndType 345 156), (0, u "length"), (3, .class_ 350), (0, u "java/lang/Appendable"), (0, .class_ 352), (0, u "java/io/Serializable"), (0, .class_ 354), (0, u "java/lang/Comparable"), (0, .class_ 356), (0, u "java/lang/CharSequence"), (0, u "serialVersionUID"), (0, u "J"), (40, u "toString"), (0, u "()Ljava/lang/String;")] 21

def k31c0 : Code := { maxStack := 2, maxLocals := 1, code := jdk_67_method_1_code, exceptionTable := #[], attributes := #[] }
def k31m0 : Method := { name := "<init>", desc := "()V", sig := { parameters := [], returnType := none }, accessFlags := 1, code := some k31c0 }
def k31c1 : Code := { maxStack := 2, maxLocals := 2, code := jdk_67_method_7_code, exceptionTable := #[], attributes := #[] }
def k31m1 : Method := { name := "append", desc := "(Ljava/lang/String;)Ljava/lang/StringBuilder;", sig := { parameters := [(.object "java/lang/String")], returnType := some (.object "java/lang/StringBuilder") }, accessFlags := 1, code := some k31c1 }
def k31c2 : Code := { maxStack := 3, maxLocals := 1, code := jdk_67_method_42_code, exceptionTable := #[], attributes := #[] }
def k31m2 : Method := { name := "toString", desc := "()Ljava/lang/String;", sig := { parameters := [], returnType := some (.object "java/lang/String") }, accessFlags := 1, code := some k31c2 }
def k31c3 : Code := { maxStack := 1, maxLocals := 1, code := jdk_67_method_93_code, exceptionTable := #[], attributes := #[] }
def k31m3 : Method := { name := "length", desc := "()I", sig := { parameters := [], returnType := some .int }, accessFlags := 4161, code := some k31c3 }
/-- java/lang/StringBuilder -/
def k31 : Class := { plain "java/lang/StringBuilder" (some 30) with
  accessFlags := 49
  interfaces := #[29, 2, 3, 4]
  cf := some (fileOf pool31 24 #[] #[{ accessFlags := 1, nameIndex := 5, descriptorIndex := 145, attributes := #[] }, { accessFlags := 1, nameIndex := 27, descriptorIndex := 28, attributes := #[] }, { accessFlags := 1, nameIndex := 399, descriptorIndex := 400, attributes := #[] }, { accessFlags := 4161, nameIndex := 345, descriptorIndex := 156, attributes := #[] }] 49 2 #[349, 351, 353, 355] #[{ accessFlags := 24, nameIndex := 357, descriptorIndex := 358, attributes := #[] }])
  fields := #[{ name := "serialVersionUID", type := .long, accessFlags := 24, slot := 0, constantValue := 0 }]
  methods := #[k31m0, k31m1, k31m2, k31m3]
  instanceTypes := #[(.array .byte), .byte, .boolean, .int]
  staticTypes := #[.long]
  resolved := Array.replicate 422 none
  statics := none }

def pool32 : Array CpInfo := pool [(2, .class_ 4), (1, u "java/lang/Object"), (0, u "<init>"), (0, u "()V"), (1, .class_ 10), (1, u "java/lang/System"), (0, u "allowSecurityManager"), (0, u "I"), (16, u "cons"), (0, u "Ljava/io/Console;"), (77, .class_ 110), (1, u "java/lang/System$CallersHolder"), (43, u "initialErrStream"), (0, u "Ljava/io/PrintStream;"), (19, u "security"), (0, u "Ljava/lang/SecurityManager;"), (31, .class_ 209), (0, u "java/lang/System$1"), (7, u "props"), (0, u "Ljava/util/Properties;"), (2, u "lineSeparator"), (0, u "Ljava/lang/String;"), (96, .class_ 321), (1, u "java/lang/System$LoggerFinder"), (5, .class_ 328), (0, u "java/lang/System$Logger"), (67, u "err"), (2, u "out"), (91, u "notSupportedJnuEncoding"), (15, u "in"), (17, u "initialIn"), (0, u "Ljava/io/InputStream;"), (35, u "bootLayer"), (0, u "Ljava/lang/ModuleLayer;"), (99, .class_ 664), (0, u "java/lang/System$2"), (9, u "NEVER"), (2, u "MAYBE"), (49, u "arraycopy"), (0, u "(Ljava/lang/Object;ILjava/lang/Object;II)V"), (72, .class_ 802), (0, u "java/lang/System$Logger$Level")] 31

def k32m0 : Method := { name := "<init>", desc := "()V", sig := { parameters := [], returnType := none }, accessFlags := 2, code := none }
def k32m1 : Method := { name := "arraycopy", desc := "(Ljava/lang/Object;ILjava/lang/Object;II)V", sig := { parameters := [(.object "java/lang/Object"), .int, (.object "java/lang/Object"), .int, .int], returnType := none }, accessFlags := 265, code := none }
/-- java/lang/System -/
def k32 : Class := { plain "java/lang/System" (some 0) with
  accessFlags := 49
  interfaces := #[]
  cf := some (fileOf pool32 8 #[.nestMembers #[319, 327, 801, 108, 663, 208]] #[{ accessFlags := 2, nameIndex := 5, descriptorIndex := 6, attributes := #[] }, { accessFlags := 265, nameIndex := 727, descriptorIndex := 728, attributes := #[] }] 49 2 #[] #[{ accessFlags := 25, nameIndex := 507, descriptorIndex := 526, attributes := #[] }, { accessFlags := 25, nameIndex := 399, descriptorIndex := 155, attributes := #[] }, { accessFlags := 25, nameIndex := 396, descriptorIndex := 155, attributes := #[] }, { accessFlags := 10, nameIndex := 525, descriptorIndex := 526, attributes := #[] }, { accessFlags := 26, nameIndex := 674, descriptorIndex := 12, attributes := #[] }, { accessFlags := 26, nameIndex := 677, descriptorIndex := 12, attributes := #[] }, { accessFlags := 10, nameIndex := 11, descriptorIndex := 12, attributes := #[] }, { accessFlags := 74, nameIndex := 175, descriptorIndex := 176, attributes := #[] }, { accessFlags := 10, nameIndex := 491, descriptorIndex := 222, attributes := #[] }, { accessFlags := 74, nameIndex := 29, descriptorIndex := 30, attributes := #[] }, { accessFlags := 74, nameIndex := 154, descriptorIndex := 155, attributes := #[] }, { accessFlags := 10, nameIndex := 217, descriptorIndex := 218, attributes := #[] }, { accessFlags := 10, nameIndex := 221, descriptorIndex := 222, attributes := #[] }, { accessFlags := 8, nameIndex := 562, descriptorIndex := 563, attributes := #[] }])
  fields := #[{ name := "in", type := (.object "java/io/InputStream"), accessFlags := 25, slot := 0, constantValue := 0 }, { name := "out", type := (.object "java/io/PrintStream"), accessFlags := 25, slot := 1, constantValue := 0 }, { name := "err", type := (.object "java/io/PrintStream"), accessFlags := 25, slot := 2, constantValue := 0 }, { name := "initialIn", type := (.object "java/io/InputStream"), accessFlags := 10, slot := 3, constantValue := 0 }, { name := "NEVER", type := .int, accessFlags := 26, slot := 4, constantValue := 0 }, { name := "MAYBE", type := .int, accessFlags := 26, slot := 5, constantValue := 0 }, { name := "allowSecurityManager", type := .int, accessFlags := 10, slot := 6, constantValue := 0 }, { name := "security", type := (.object "java/lang/SecurityManager"), accessFlags := 74, slot := 7, constantValue := 0 }, { name := "notSupportedJnuEncoding", type := (.object "java/lang/String"), accessFlags := 10, slot := 8, constantValue := 0 }, { name := "cons", type := (.object "java/io/Console"), accessFlags := 74, slot := 9, constantValue := 0 }, { name := "initialErrStream", type := (.object "java/io/PrintStream"), accessFlags := 74, slot := 10, constantValue := 0 }, { name := "props", type := (.object "java/util/Properties"), accessFlags := 10, slot := 11, constantValue := 0 }, { name := "lineSeparator", type := (.object "java/lang/String"), accessFlags := 10, slot := 12, constantValue := 0 }, { name := "bootLayer", type := (.object "java/lang/ModuleLayer"), accessFlags := 8, slot := 13, constantValue := 0 }]
  methods := #[k32m0, k32m1]
  instanceTypes := #[]
  staticTypes := #[(.object "java/io/InputStream"), (.object "java/io/PrintStream"), (.object "java/io/PrintStream"), (.object "java/io/InputStream"), .int, .int, .int, (.object "java/lang/SecurityManager"), (.object "java/lang/String"), (.object "java/io/Console"), (.object "java/io/PrintStream"), (.object "java/util/Properties"), (.object "java/lang/String"), (.object "java/lang/ModuleLayer")]
  resolved := Array.replicate 834 none
  statics := none }

def pool33 : Array CpInfo := pool [(2, .class_ 4), (1, u "java/lang/Object"), (0, u "<init>"), (0, u "()V"), (7, .class_ 16), (1, u "java/util/Arrays"), (57, .class_ 76), (1, u "java/util/Arrays$NaturalOrder"), (36, .class_ 115), (1, u "java/util/Arrays$LegacyMergeSort"), (1, u "Z"), (21, u "copyOfRange"), (10, .methodref 151 152), (0, .class_ 153), (0, .nameAndType 154 155), (0, u "java/lang/System"), (0, u "arraycopy"), (0, u "(Ljava/lang/Object;ILjava/lang/Object;II)V"), (148, .methodref 305 306), (0, .class_ 307), (0, .nameAndType 308 309), (0, u "java/lang/Math"), (0, u "min"), (0, u "(II)I"), (29, .methodref 14 340), (0, .nameAndType 341 342), (0, u "copyOfRangeByte"), (0, u "([BII)[B"), (0, .methodref 14 344), (0, .nameAndType 345 346), (0, u "checkLength"), (0, u "(II)V"), (28, .class_ 376), (0, u "java/util/Arrays$ArrayList"), (68, u "$assertionsDisabled"), (269, u "MIN_ARRAY_SORT_GRAN"), (0, u "I"), (2, u "INSERTIONSORT_THRESHOLD"), (255, .class_ 976), (0, u "java/util/Arrays$ArrayItr")] 52

def k33m0 : Method := { name := "<init>", desc := "()V", sig := { parameters := [], returnType := none }, accessFlags := 2, code := none }
def k33c1 : Code := { maxStack := 4, maxLocals := 2, code := jdk_65_method_131_code, exceptionTable := #[], attributes := #[] }
def k33m1 : Method := { name := "checkLength", desc := "(II)V", sig := { parameters := [.int, .int], returnType := none }, accessFlags := 10, code := some k33c1 }
def k33c2 : Code := { maxStack := 3, maxLocals := 3, code := jdk_65_method_132_code, exceptionTable := #[], attributes := #[] }
def k33m2 : Method := { name := "copyOfRange", desc := "([BII)[B", sig := { parameters := [(.array .byte), .int, .int], returnType := some (.array .byte) }, accessFlags := 9, code := some k33c2 }
def k33c3 : Code := { maxStack := 6, maxLocals := 5, code := jdk_65_method_133_code, exceptionTable := #[], attributes := #[] }
def k33m3 : Method := { name := "copyOfRangeByte", desc := "([BII)[B", sig := { parameters := [(.array .byte), .int, .int], returnType := some (.array .byte) }, accessFlags := 10, code := some k33c3 }
/-- java/util/Arrays -/
def k33 : Class := { plain "java/util/Arrays" (some 0) with
  accessFlags := 49
  interfaces := #[]
  cf := some (fileOf pool33 14 #[.nestMembers #[975, 375, 113, 74]] #[{ accessFlags := 2, nameIndex := 5, descriptorIndex := 6, attributes := #[] }, { accessFlags := 10, nameIndex := 345, descriptorIndex := 346, attributes := #[] }, { accessFlags := 9, nameIndex := 139, descriptorIndex := 342, attributes := #[] }, { accessFlags := 10, nameIndex := 341, descriptorIndex := 342, attributes := #[] }] 49 2 #[] #[{ accessFlags := 26, nameIndex := 715, descriptorIndex := 716, attributes := #[] }, { accessFlags := 26, nameIndex := 719, descriptorIndex := 716, attributes := #[] }, { accessFlags := 4120, nameIndex := 445, descriptorIndex := 117, attributes := #[] }])
  fields := #[{ name := "MIN_ARRAY_SORT_GRAN", type := .int, accessFlags := 26, slot := 0, constantValue := 0 }, { name := "INSERTIONSORT_THRESHOLD", type := .int, accessFlags := 26, slot := 1, constantValue := 0 }, { name := "$assertionsDisabled", type := .boolean, accessFlags := 4120, slot := 2, constantValue := 0 }]
  methods := #[k33m0, k33m1, k33m2, k33m3]
  instanceTypes := #[]
  staticTypes := #[.int, .int, .boolean]
  resolved := Array.replicate 1029 none
  statics := none }

def pool34 : Array CpInfo := pool [(1, .class_ 2), (0, u "java/lang/Math"), (1, .class_ 6), (1, u "java/lang/Object"), (0, u "<init>"), (0, u "()V"), (89, .class_ 100), (1, u "java/lang/Math$RandomNumberGeneratorHolder"), (71, u "negativeZeroFloatBits"), (0, u "J"), (2, u "negativeZeroDoubleBits"), (24, u "min"), (43, u "$assertionsDisabled"), (0, u "Z"), (88, u "(II)I"), (2, u "twoToTheDoubleScaleDown"), (0, u "D"), (4, u "twoToTheDoubleScaleUp"), (9, u "E"), (3, u "PI"), (2, u "TAU"), (2, u "DEGREES_TO_RADIANS"), (0, u "RADIANS_TO_DEGREES")] 94

def k34m0 : Method := { name := "<init>", desc := "()V", sig := { parameters := [], returnType := none }, accessFlags := 2, code := none }
def k34c1 : Code := { maxStack := 2, maxLocals := 2, code := jdk_29_method_69_code, exceptionTable := #[], attributes := #[] }
def k34m1 : Method := { name := "min", desc := "(II)I", sig := { parameters := [.int, .int], returnType := some .int }, accessFlags := 9, code := some k34c1 }
/-- java/lang/Math -/
def k34 : Class := { plain "java/lang/Math" (some 0) with
  accessFlags := 49
  interfaces := #[]
  cf := some (fileOf pool34 1 #[.nestMembers #[98]] #[{ accessFlags := 2, nameIndex := 7, descriptorIndex := 8, attributes := #[] }, { accessFlags := 9, nameIndex := 201, descriptorIndex := 335, attributes := #[] }] 49 4 #[] #[{ accessFlags := 25, nameIndex := 354, descriptorIndex := 339, attributes := #[] }, { accessFlags := 25, nameIndex := 358, descriptorIndex := 339, attributes := #[] }, { accessFlags := 25, nameIndex := 361, descriptorIndex := 339, attributes := #[] }, { accessFlags := 26, nameIndex := 364, descriptorIndex := 339, attributes := #[] }, { accessFlags := 26, nameIndex := 365, descriptorIndex := 339, attributes := #[] }, { accessFlags := 26, nameIndex := 172, descriptorIndex := 173, attributes := #[] }, { accessFlags := 26, nameIndex := 176, descriptorIndex := 173, attributes := #[] }, { accessFlags := 8, nameIndex := 344, descriptorIndex := 339, attributes := #[] }, { accessFlags := 8, nameIndex := 338, descriptorIndex := 339, attributes := #[] }, { accessFlags := 4120, nameIndex := 245, descriptorIndex := 246, attributes := #[] }])
  fields := #[{ name := "E", type := .double, accessFlags := 25, slot := 0, constantValue := 0 }, { name := "PI", type := .double, accessFlags := 25, slot := 1, constantValue := 0 }, { name := "TAU", type := .double, accessFlags := 25, slot := 2, constantValue := 0 }, { name := "DEGREES_TO_RADIANS", type := .double, accessFlags := 26, slot := 3, constantValue := 0 }, { name := "RADIANS_TO_DEGREES", type := .double, accessFlags := 26, slot := 4, constantValue := 0 }, { name := "negativeZeroFloatBits", type := .long, accessFlags := 26, slot := 5, constantValue := 0 }, { name := "negativeZeroDoubleBits", type := .long, accessFlags := 26, slot := 6, constantValue := 0 }, { name := "twoToTheDoubleScaleUp", type := .double, accessFlags := 8, slot := 7, constantValue := 0 }, { name := "twoToTheDoubleScaleDown", type := .double, accessFlags := 8, slot := 8, constantValue := 0 }, { name := "$assertionsDisabled", type := .boolean, accessFlags := 4120, slot := 9, constantValue := 0 }]
  methods := #[k34m0, k34m1]
  instanceTypes := #[]
  staticTypes := #[.double, .double, .double, .double, .double, .long, .long, .double, .double, .boolean]
  resolved := Array.replicate 460 none
  statics := none }

def pool35 : Array CpInfo := pool [(2, .class_ 4), (1, u "java/lang/Object"), (0, u "<init>"), (0, u "()V"), (17, .class_ 26), (1, u "jdk/internal/util/Preconditions"), (28, .class_ 56), (0, u "jdk/internal/util/Preconditions$4"), (57, .class_ 115), (0, u "jdk/internal/util/Preconditions$1"), (7, u "SIOOBE_FORMATTER"), (0, u "Ljava/util/function/BiFunction;"), (0, .class_ 126), (0, u "jdk/internal/util/Preconditions$2"), (3, u "AIOOBE_FORMATTER"), (0, .class_ 132), (0, u "jdk/internal/util/Preconditions$3"), (3, u "IOOBE_FORMATTER")] 57

def k35m0 : Method := { name := "<init>", desc := "()V", sig := { parameters := [], returnType := none }, accessFlags := 1, code := none }
/-- jdk/internal/util/Preconditions -/
def k35 : Class := { plain "jdk/internal/util/Preconditions" (some 0) with
  accessFlags := 33
  interfaces := #[]
  cf := some (fileOf pool35 24 #[.nestMembers #[55, 131, 125, 114]] #[{ accessFlags := 1, nameIndex := 5, descriptorIndex := 6, attributes := #[] }] 33 2 #[] #[{ accessFlags := 25, nameIndex := 123, descriptorIndex := 124, attributes := #[] }, { accessFlags := 25, nameIndex := 130, descriptorIndex := 124, attributes := #[] }, { accessFlags := 25, nameIndex := 136, descriptorIndex := 124, attributes := #[] }])
  fields := #[{ name := "SIOOBE_FORMATTER", type := (.object "java/util/function/BiFunction"), accessFlags := 25, slot := 0, constantValue := 0 }, { name := "AIOOBE_FORMATTER", type := (.object "java/util/function/BiFunction"), accessFlags := 25, slot := 1, constantValue := 0 }, { name := "IOOBE_FORMATTER", type := (.object "java/util/function/BiFunction"), accessFlags := 25, slot := 2, constantValue := 0 }]
  methods := #[k35m0]
  instanceTypes := #[]
  staticTypes := #[(.object "java/util/function/BiFunction"), (.object "java/util/function/BiFunction"), (.object "java/util/function/BiFunction")]
  resolved := Array.replicate 194 none
  statics := some 2 }

def pool36 : Array CpInfo := pool [(2, .class_ 4), (1, u "java/lang/Object"), (0, u "<init>"), (0, u "()V"), (1, .class_ 10), (1, u "java/util/AbstractCollection"), (66, .class_ 78), (0, u "java/util/Collection")] 81

def k36m0 : Method := { name := "<init>", desc := "()V", sig := { parameters := [], returnType := none }, accessFlags := 4, code := none }
/-- java/util/AbstractCollection -/
def k36 : Class := { plain "java/util/AbstractCollection" (some 0) with
  accessFlags := 1057
  interfaces := #[17]
  cf := some (fileOf pool36 8 #[] #[{ accessFlags := 4, nameIndex := 5, descriptorIndex := 6, attributes := #[] }] 1057 2 #[77] #[])
  fields := #[]
  methods := #[k36m0]
  instanceTypes := #[]
  staticTypes := #[]
  resolved := Array.replicate 160 none
  statics := none }

def pool37 : Array CpInfo := pool [(2, .class_ 4), (1, u "java/util/AbstractCollection"), (0, u "<init>"), (0, u "()V"), (1, .class_ 10), (1, u "java/util/ImmutableCollections"), (2, .class_ 14), (0, u "java/util/ImmutableCollections$AbstractImmutableCollection")] 41

def k37m0 : Method := { name := "<init>", desc := "()V", sig := { parameters := [], returnType := none }, accessFlags := 0, code := none }
/-- java/util/ImmutableCollections$AbstractImmutableCollection -/
def k37 : Class := { plain "java/util/ImmutableCollections$AbstractImmutableCollection" (some 36) with
  accessFlags := 1056
  interfaces := #[]
  cf := some (fileOf pool37 13 #[.nestHost 8] #[{ accessFlags := 0, nameIndex := 5, descriptorIndex := 6, attributes := #[] }] 1056 2 #[] #[])
  fields := #[]
  methods := #[k37m0]
  instanceTypes := #[]
  staticTypes := #[]
  resolved := Array.replicate 56 none
  statics := none }

def pool38 : Array CpInfo := pool [(1, .class_ 2), (0, u "java/util/RandomAccess"), (0, .class_ 4), (0, u "java/lang/Object")] 2

/-- java/util/RandomAccess -/
def k38 : Class := { plain "java/util/RandomAccess" (some 0) with
  accessFlags := 1537
  interfaces := #[]
  cf := some (fileOf pool38 1 #[] #[] 1537 3 #[] #[])
  fields := #[]
  methods := #[]
  instanceTypes := #[]
  staticTypes := #[]
  resolved := Array.replicate 7 none
  statics := none }

def pool39 : Array CpInfo := pool [(2, .class_ 4), (1, u "java/util/ImmutableCollections$AbstractImmutableCollection"), (0, u "<init>"), (0, u "()V"), (1, .class_ 10), (1, u "java/util/ImmutableCollections"), (3, .class_ 16), (1, u "java/util/ImmutableCollections$AbstractImmutableList"), (60, .class_ 78), (0, u "java/util/List"), (45, .class_ 125), (0, u "java/util/RandomAccess")] 70

def k39m0 : Method := { name := "<init>", desc := "()V", sig := { parameters := [], returnType := none }, accessFlags := 0, code := none }
/-- java/util/ImmutableCollections$AbstractImmutableList -/
def k39 : Class := { plain "java/util/ImmutableCollections$AbstractImmutableList" (some 37) with
  accessFlags := 1056
  interfaces := #[19, 38]
  cf := some (fileOf pool39 14 #[.nestHost 8] #[{ accessFlags := 0, nameIndex := 5, descriptorIndex := 6, attributes := #[] }] 1056 2 #[77, 124] #[])
  fields := #[]
  methods := #[k39m0]
  instanceTypes := #[]
  staticTypes := #[]
  resolved := Array.replicate 196 none
  statics := none }

def pool40 : Array CpInfo := pool [(2, .class_ 4), (1, u "java/util/ImmutableCollections$AbstractImmutableList"), (3, .class_ 10), (1, u "java/util/ImmutableCollections$ListN"), (0, u "elements"), (0, u "[Ljava/lang/Object;"), (2, u "allowNulls"), (0, u "Z"), (42, .class_ 60), (0, u "java/io/Serializable"), (53, .class_ 115), (0, u "java/util/ImmutableCollections")] 3

/-- java/util/ImmutableCollections$ListN -/
def k40 : Class := { plain "java/util/ImmutableCollections$ListN" (some 39) with
  accessFlags := 48
  interfaces := #[2]
  cf := some (fileOf pool40 8 #[.nestHost 114] #[] 48 2 #[59] #[{ accessFlags := 18, nameIndex := 11, descriptorIndex := 12, attributes := #[] }, { accessFlags := 18, nameIndex := 15, descriptorIndex := 16, attributes := #[] }])
  fields := #[{ name := "elements", type := (.array (.object "java/lang/Object")), accessFlags := 18, slot := 0, constantValue := 0 }, { name := "allowNulls", type := .boolean, accessFlags := 18, slot := 1, constantValue := 0 }]
  methods := #[]
  instanceTypes := #[(.array (.object "java/lang/Object")), .boolean]
  staticTypes := #[]
  resolved := Array.replicate 119 none
  statics := none }

/-- the primitive byte -/
def k41 : Class := { plain "byte" none with kind := .primitive 'B', accessFlags := 0x411 }
/-- [B -/
def k42 : Class := { plain "[B" (some 0) with kind := .array 41 .byte, interfaces := #[12, 2], accessFlags := 1041 }

/-- the primitive char -/
def k43 : Class := { plain "char" none with kind := .primitive 'C', accessFlags := 0x411 }
/-- [C -/
def k44 : Class := { plain "[C" (some 0) with kind := .array 43 .char, interfaces := #[12, 2], accessFlags := 1041 }

/-- the primitive int -/
def k45 : Class := { plain "int" none with kind := .primitive 'I', accessFlags := 0x411 }
/-- [I -/
def k46 : Class := { plain "[I" (some 0) with kind := .array 45 .int, interfaces := #[12, 2], accessFlags := 1041 }

/-- [Ljava/lang/Object; -/
def k47 : Class := { plain "[Ljava/lang/Object;" (some 0) with kind := .array 0 (.object "java/lang/Object"), interfaces := #[12, 2], accessFlags := 1041 }

/-- [Ljava/util/HashMap$Node; -/
def k48 : Class := { plain "[Ljava/util/HashMap$Node;" (some 0) with kind := .array 27 (.object "java/util/HashMap$Node"), interfaces := #[12, 2], accessFlags := 1041 }

def classes0 : Array Class := #[k0, k1, k2, k3, k4, k5, k6, k7, k8, k9, k10, k11, k12, k13, k14, k15, k16, k17, k18, k19, k20, k21, k22, k23, k24, k25, k26, k27, k28, k29, k30, k31, k32, k33, k34, k35, k36, k37, k38, k39, k40, k41, k42, k43, k44, k45, k46, k47, k48]
/-- the class that the rule has made for the site at 10 of com/example/mandoline/mandoline/Variable.addField -/
def k49 : Class := Jvm.LamKit.madeRec { classes := classes0 } "com/example/mandoline/mandoline/Variable" (Jvm.Lambda.Shape.mk "java/util/function/Function" "apply" (Jvm.ClassFile.MethodDescriptor.mk ([(Jvm.ClassFile.FieldType.object "java/lang/Object")] : List Jvm.ClassFile.FieldType) (Option.some (Jvm.ClassFile.FieldType.object "java/lang/Object"))) ([(Jvm.ClassFile.FieldType.object "com/example/mandoline/mandoline/Variable"), (Jvm.ClassFile.FieldType.object "com/example/mandoline/mandoline/Place$Field")] : List Jvm.ClassFile.FieldType) (5 : Nat) "com/example/mandoline/mandoline/Variable" "lambda$addField$0" (Jvm.ClassFile.MethodDescriptor.mk ([(Jvm.ClassFile.FieldType.object "com/example/mandoline/mandoline/Place$Field"), (Jvm.ClassFile.FieldType.object "java/lang/String")] : List Jvm.ClassFile.FieldType) (Option.some (Jvm.ClassFile.FieldType.object "com/example/mandoline/mandoline/Variable"))) false (Jvm.ClassFile.MethodDescriptor.mk ([(Jvm.ClassFile.FieldType.object "java/lang/String")] : List Jvm.ClassFile.FieldType) (Option.some (Jvm.ClassFile.FieldType.object "com/example/mandoline/mandoline/Variable")))) 49

def heap : Heap := #[{ cls := 7, slots := #[.long 0, .int 1, .null, .int 0, .null, .int 0, .int 0], vm := .statics 7 },
  { cls := 20, slots := #[.long 0, .int 0, .null, .null, .ref 4, .null, .null, .null, .int 0, .int 0], vm := .statics 20 },
  { cls := 35, slots := #[.null, .null, .null], vm := .statics 35 },
  { cls := 47, slots := #[], vm := .none },
  { cls := 40, slots := #[.ref 3, .int 0], vm := .none }]
def classes : Array Class := #[k0, k1, k2, k3, k4, k5, k6, k7, k8, k9, k10, k11, k12, k13, k14, k15, k16, k17, k18, k19, k20, k21, k22, k23, k24, k25, k26, k27, k28, k29, k30, k31, k32, k33, k34, k35, k36, k37, k38, k39, k40, k41, k42, k43, k44, k45, k46, k47, k48, k49]
def interned : List (Array UInt16 × Addr) := []
def slotsUsed : Nat := 22
def theMethod : MethodId := ⟨1, 3⟩
def args0 : Array Value := #[.int 5, .int 7, .int 9, .int 4]
def aboutOver (below : List Frame) : State where
  vm := { classes := classes, interned := interned.toArray }
  heap := heap
  slotsUsed := slotsUsed
  threads := #[{ frames := .invoking theMethod args0 :: below }]
def below0 : List Frame := [.native { method := ⟨0, 0⟩, args := #[] }]
def about1 : State := aboutOver below0
def p0 : Program := .bare "" "" ""
def e0 : Env := launch0.env 0 0 0
theorem w_frames : about1.frames = Frame.invoking theMethod args0 :: below0 := rfl
set_option maxRecDepth 65536 in
theorem w_args : argsFit about1.vm theMethod args0 = true := by decide +kernel
set_option maxRecDepth 65536 in
theorem w_heap : heapFits about1 = true := by decide +kernel
set_option maxRecDepth 65536 in
theorem w_runnable : about1.curStatus? = some .runnable := by decide +kernel
set_option maxRecDepth 65536 in
theorem w_alone : about1.alone = true := by decide +kernel
set_option maxRecDepth 65536 in
theorem w_named : about1.methodNamed? x = some theMethod := by decide +kernel
set_option maxRecDepth 65536 in
theorem w_hears : about1.hears theMethod below0 = true := by decide +kernel
set_option maxRecDepth 65536 in
theorem w_ripe : about1.ripe theMethod args0 below0 = true := by decide +kernel
theorem w_running : about1.status = .running := rfl
set_option maxRecDepth 65536 in
theorem w_room : about1.hasRoom e0.platform room_1 = true :=
  launch0.hasRoom_least _ room_1 (by decide +kernel) (by decide +kernel) (by decide +kernel) (by decide +kernel) (by decide +kernel) (by decide +kernel)
theorem allAtoms_all (ts : List Jvm.Cond) (a : Array Jvm.Value) (st : Jvm.State) : (allAtoms ts).before a st = ts.all (fun c => c.before a st) := by
  induction ts with
  | nil => rfl
  | cons c t ih =>
    show (Jvm.Cond.and c (allAtoms t)).before a st = _
    rw [Jvm.Cond.before_and, ih, List.all_cons]
def words1 : List Jvm.Cond := Jvm.Cond.code x code maxLocals ret :: tables_1
/-- a 'code' word, met by the world's own term for the bytes: nothing is compared byte by byte -/
theorem code_word {y : MethodName} {bytes : ByteArray} {mx : Nat} {rt : Option FieldType} {a : Array Value} {s : State} {m : MethodId} {meth : Method} {c : Code} (h1 : s.methodNamed? y = some m) (h2 : s.vm.method? m = some meth) (h3 : meth.code = some c) (h4 : c.code = bytes)
    (h5 : (c.maxLocals == mx && c.exceptionTable.isEmpty && decide (c.maxStack ≤ mostOperands) && decide (meth.sig.returnType = rt) && !meth.locks && decide (parseMethodDescriptor y.desc = some meth.sig)) = true) : (Jvm.Cond.code y bytes mx rt).before a s = true := by
  simp only [Bool.and_eq_true, beq_iff_eq, Bool.not_eq_true', decide_eq_true_eq] at h5
  obtain ⟨⟨⟨⟨⟨g1, g2⟩, g3⟩, g4⟩, g5⟩, g6⟩ := h5
  simp [Cond.before, Cond.holds, Cond.value, h1, h2, h3, h4, g1, g2, g3, g4, g5, g6]
def isCode : Jvm.Cond → Bool
  | .code _ _ _ _ => true
  | _ => false
theorem all_split {L : List Jvm.Cond} {P : Jvm.Cond → Bool} (h1 : L.all (fun c => isCode c || P c) = true) (h2 : ∀ c ∈ L.filter isCode, P c = true) : L.all P = true := by
  refine List.all_eq_true.mpr fun c hc => ?_
  have h := List.all_eq_true.mp h1 c hc
  rcases Bool.eq_false_or_eq_true (isCode c) with hi | hi
  · exact h2 c (List.mem_filter.mpr ⟨hc, hi⟩)
  · simpa [hi] using h
set_option maxRecDepth 65536 in
theorem w_c0 : (Jvm.Cond.code x code maxLocals ret).before args0 about1 = true := code_word (m := ⟨1, 3⟩) (meth := k1m3) (c := k1c3) (by decide +kernel) rfl rfl rfl (by decide +kernel)
set_option maxRecDepth 65536 in
theorem w_c1 : (Jvm.Cond.code ({ cls := "com/example/mandoline/mandoline/VariableFunctionPinLaw", name := "str2", desc := "(I)Ljava/lang/String;" } : Jvm.MethodName) method_2_code (2 : Nat) (Option.some (Jvm.ClassFile.FieldType.object "java/lang/String"))).before args0 about1 = true := code_word (m := ⟨1, 1⟩) (meth := k1m1) (c := k1c1) (by decide +kernel) rfl rfl rfl (by decide +kernel)
set_option maxRecDepth 65536 in
theorem w_c2 : (Jvm.Cond.code ({ cls := "java/lang/String", name := "<init>", desc := "([C)V" } : Jvm.MethodName) jdk_42_method_3_code (2 : Nat) (Option.none : Option Jvm.ClassFile.FieldType)).before args0 about1 = true := code_word (m := ⟨7, 1⟩) (meth := k7m1) (c := k7c1) (by decide +kernel) rfl rfl rfl (by decide +kernel)
set_option maxRecDepth 65536 in
theorem w_c3 : (Jvm.Cond.code ({ cls := "java/lang/String", name := "<init>", desc := "([CIILjava/lang/Void;)V" } : Jvm.MethodName) jdk_42_method_149_code (6 : Nat) (Option.none : Option Jvm.ClassFile.FieldType)).before args0 about1 = true := code_word (m := ⟨7, 8⟩) (meth := k7m8) (c := k7c8) (by decide +kernel) rfl rfl rfl (by decide +kernel)
set_option maxRecDepth 65536 in
theorem w_c4 : (Jvm.Cond.code ({ cls := "java/lang/Object", name := "<init>", desc := "()V" } : Jvm.MethodName) object_method_1_code (1 : Nat) (Option.none : Option Jvm.ClassFile.FieldType)).before args0 about1 = true := code_word (m := ⟨0, 0⟩) (meth := k0m0) (c := k0c0) (by decide +kernel) rfl rfl rfl (by decide +kernel)
set_option maxRecDepth 65536 in
theorem w_c5 : (Jvm.Cond.code ({ cls := "java/lang/StringUTF16", name := "compress", desc := "([CII)[B" } : Jvm.MethodName) jdk_52_method_16_code (6 : Nat) (Option.some (Jvm.ClassFile.FieldType.array Jvm.ClassFile.FieldType.byte))).before args0 about1 = true := code_word (m := ⟨8, 2⟩) (meth := k8m2) (c := k8c2) (by decide +kernel) rfl rfl rfl (by decide +kernel)
set_option maxRecDepth 65536 in
theorem w_c6 : (Jvm.Cond.code ({ cls := "java/lang/StringUTF16", name := "compress", desc := "([CI[BII)I" } : Jvm.MethodName) jdk_52_method_21_code (7 : Nat) (Option.some Jvm.ClassFile.FieldType.int)).before args0 about1 = true := code_word (m := ⟨8, 3⟩) (meth := k8m3) (c := k8c3) (by decide +kernel) rfl rfl rfl (by decide +kernel)
set_option maxRecDepth 65536 in
theorem w_c7 : (Jvm.Cond.code ({ cls := "java/lang/StringUTF16", name := "coderFromArrayLen", desc := "([BI)B" } : Jvm.MethodName) jdk_52_method_15_code (2 : Nat) (Option.some Jvm.ClassFile.FieldType.byte)).before args0 about1 = true := code_word (m := ⟨8, 1⟩) (meth := k8m1) (c := k8c1) (by decide +kernel) rfl rfl rfl (by decide +kernel)
set_option maxRecDepth 65536 in
theorem w_c8 : (Jvm.Cond.code ({ cls := "com/example/mandoline/mandoline/Variable", name := "<init>", desc := "(Ljava/lang/String;Lcom/example/mandoline/mandoline/ClangNode;Ljava/lang/String;)V" } : Jvm.MethodName) prog_50_method_2_code (4 : Nat) (Option.none : Option Jvm.ClassFile.FieldType)).before args0 about1 = true := code_word (m := ⟨9, 1⟩) (meth := k9m1) (c := k9c1) (by decide +kernel) rfl rfl rfl (by decide +kernel)
set_option maxRecDepth 65536 in
theorem w_c9 : (Jvm.Cond.code ({ cls := "com/example/mandoline/mandoline/Variable", name := "<init>", desc := "(Ljava/lang/String;Lcom/example/mandoline/mandoline/ClangNode;Ljava/lang/String;Lcom/example/mandoline/mandoline/Variable;)V" } : Jvm.MethodName) prog_50_method_3_code (5 : Nat) (Option.none : Option Jvm.ClassFile.FieldType)).before args0 about1 = true := code_word (m := ⟨9, 2⟩) (meth := k9m2) (c := k9c2) (by decide +kernel) rfl rfl rfl (by decide +kernel)
set_option maxRecDepth 65536 in
theorem w_c10 : (Jvm.Cond.code ({ cls := "java/util/LinkedHashMap", name := "<init>", desc := "()V" } : Jvm.MethodName) jdk_94_method_16_code (1 : Nat) (Option.none : Option Jvm.ClassFile.FieldType)).before args0 about1 = true := code_word (m := ⟨15, 3⟩) (meth := k15m3) (c := k15c3) (by decide +kernel) rfl rfl rfl (by decide +kernel)
set_option maxRecDepth 65536 in
theorem w_c11 : (Jvm.Cond.code ({ cls := "java/util/HashMap", name := "<init>", desc := "()V" } : Jvm.MethodName) jdk_69_method_7_code (1 : Nat) (Option.none : Option Jvm.ClassFile.FieldType)).before args0 about1 = true := code_word (m := ⟨13, 1⟩) (meth := k13m1) (c := k13c1) (by decide +kernel) rfl rfl rfl (by decide +kernel)
set_option maxRecDepth 65536 in
theorem w_c12 : (Jvm.Cond.code ({ cls := "java/util/AbstractMap", name := "<init>", desc := "()V" } : Jvm.MethodName) jdk_71_method_1_code (1 : Nat) (Option.none : Option Jvm.ClassFile.FieldType)).before args0 about1 = true := code_word (m := ⟨11, 0⟩) (meth := k11m0) (c := k11c0) (by decide +kernel) rfl rfl rfl (by decide +kernel)
set_option maxRecDepth 65536 in
theorem w_c13 : (Jvm.Cond.code ({ cls := "java/util/List", name := "of", desc := "()Ljava/util/List;" } : Jvm.MethodName) jdk_40_method_36_code (0 : Nat) (Option.some (Jvm.ClassFile.FieldType.object "java/util/List"))).before args0 about1 = true := code_word (m := ⟨19, 0⟩) (meth := k19m0) (c := k19c0) (by decide +kernel) rfl rfl rfl (by decide +kernel)
set_option maxRecDepth 65536 in
theorem w_c14 : (Jvm.Cond.code ({ cls := "com/example/mandoline/mandoline/Variable", name := "function", desc := "()Ljava/lang/String;" } : Jvm.MethodName) prog_50_method_8_code (1 : Nat) (Option.some (Jvm.ClassFile.FieldType.object "java/lang/String"))).before args0 about1 = true := code_word (m := ⟨9, 3⟩) (meth := k9m3) (c := k9c3) (by decide +kernel) rfl rfl rfl (by decide +kernel)
set_option maxRecDepth 65536 in
theorem w_c15 : (Jvm.Cond.code ({ cls := "com/example/mandoline/mandoline/VariableFunctionPinLaw", name := "same", desc := "(Ljava/lang/String;Ljava/lang/String;)Z" } : Jvm.MethodName) method_3_code (2 : Nat) (Option.some Jvm.ClassFile.FieldType.boolean)).before args0 about1 = true := code_word (m := ⟨1, 2⟩) (meth := k1m2) (c := k1c2) (by decide +kernel) rfl rfl rfl (by decide +kernel)
set_option maxRecDepth 65536 in
theorem w_c16 : (Jvm.Cond.code ({ cls := "java/lang/String", name := "equals", desc := "(Ljava/lang/Object;)Z" } : Jvm.MethodName) jdk_42_method_66_code (3 : Nat) (Option.some Jvm.ClassFile.FieldType.boolean)).before args0 about1 = true := code_word (m := ⟨7, 5⟩) (meth := k7m5) (c := k7c5) (by decide +kernel) rfl rfl rfl (by decide +kernel)
set_option maxRecDepth 65536 in
theorem w_c17 : (Jvm.Cond.code ({ cls := "com/example/mandoline/mandoline/Variable", name := "<init>", desc := "(Ljava/lang/String;Lcom/example/mandoline/mandoline/ClangNode;)V" } : Jvm.MethodName) prog_50_method_1_code (3 : Nat) (Option.none : Option Jvm.ClassFile.FieldType)).before args0 about1 = true := code_word (m := ⟨9, 0⟩) (meth := k9m0) (c := k9c0) (by decide +kernel) rfl rfl rfl (by decide +kernel)
set_option maxRecDepth 65536 in
theorem w_c18 : (Jvm.Cond.code ({ cls := "com/example/mandoline/mandoline/Place$Field", name := "<init>", desc := "(Ljava/lang/String;Ljava/lang/String;)V" } : Jvm.MethodName) prog_39_method_1_code (3 : Nat) (Option.none : Option Jvm.ClassFile.FieldType)).before args0 about1 = true := code_word (m := ⟨22, 0⟩) (meth := k22m0) (c := k22c0) (by decide +kernel) rfl rfl rfl (by decide +kernel)
set_option maxRecDepth 65536 in
theorem w_c19 : (Jvm.Cond.code ({ cls := "java/lang/Record", name := "<init>", desc := "()V" } : Jvm.MethodName) jdk_30_method_1_code (1 : Nat) (Option.none : Option Jvm.ClassFile.FieldType)).before args0 about1 = true := code_word (m := ⟨21, 0⟩) (meth := k21m0) (c := k21c0) (by decide +kernel) rfl rfl rfl (by decide +kernel)
set_option maxRecDepth 65536 in
theorem w_c20 : (Jvm.Cond.code ({ cls := "com/example/mandoline/mandoline/Variable", name := "addField", desc := "(Lcom/example/mandoline/mandoline/Place$Field;)Lcom/example/mandoline/mandoline/Variable;" } : Jvm.MethodName) prog_50_method_12_code (2 : Nat) (Option.some (Jvm.ClassFile.FieldType.object "com/example/mandoline/mandoline/Variable"))).before args0 about1 = true := code_word (m := ⟨9, 4⟩) (meth := k9m4) (c := k9c4) (by decide +kernel) rfl rfl rfl (by decide +kernel)
set_option maxRecDepth 65536 in
theorem w_c21 : (Jvm.Cond.code ({ cls := "com/example/mandoline/mandoline/Place$Field", name := "key", desc := "()Ljava/lang/String;" } : Jvm.MethodName) prog_39_method_5_code (1 : Nat) (Option.some (Jvm.ClassFile.FieldType.object "java/lang/String"))).before args0 about1 = true := code_word (m := ⟨22, 1⟩) (meth := k22m1) (c := k22c1) (by decide +kernel) rfl rfl rfl (by decide +kernel)
set_option maxRecDepth 65536 in
theorem w_c22 : (Jvm.Cond.code ({ cls := "java/util/HashMap", name := "computeIfAbsent", desc := "(Ljava/lang/Object;Ljava/util/function/Function;)Ljava/lang/Object;" } : Jvm.MethodName) jdk_69_method_35_code (13 : Nat) (Option.some (Jvm.ClassFile.FieldType.object "java/lang/Object"))).before args0 about1 = true := code_word (m := ⟨13, 3⟩) (meth := k13m3) (c := k13c3) (by decide +kernel) rfl rfl rfl (by decide +kernel)
set_option maxRecDepth 65536 in
theorem w_c23 : (Jvm.Cond.code ({ cls := "java/util/HashMap", name := "hash", desc := "(Ljava/lang/Object;)I" } : Jvm.MethodName) jdk_69_method_1_code (2 : Nat) (Option.some Jvm.ClassFile.FieldType.int)).before args0 about1 = true := code_word (m := ⟨13, 0⟩) (meth := k13m0) (c := k13c0) (by decide +kernel) rfl rfl rfl (by decide +kernel)
set_option maxRecDepth 65536 in
theorem w_c24 : (Jvm.Cond.code ({ cls := "java/lang/String", name := "hashCode", desc := "()I" } : Jvm.MethodName) jdk_42_method_78_code (2 : Nat) (Option.some Jvm.ClassFile.FieldType.int)).before args0 about1 = true := code_word (m := ⟨7, 6⟩) (meth := k7m6) (c := k7c6) (by decide +kernel) rfl rfl rfl (by decide +kernel)
set_option maxRecDepth 65536 in
theorem w_c25 : (Jvm.Cond.code ({ cls := "java/lang/String", name := "isLatin1", desc := "()Z" } : Jvm.MethodName) jdk_42_method_154_code (1 : Nat) (Option.some Jvm.ClassFile.FieldType.boolean)).before args0 about1 = true := code_word (m := ⟨7, 11⟩) (meth := k7m11) (c := k7c11) (by decide +kernel) rfl rfl rfl (by decide +kernel)
set_option maxRecDepth 65536 in
theorem w_c26 : (Jvm.Cond.code ({ cls := "java/lang/StringLatin1", name := "hashCode", desc := "([B)I" } : Jvm.MethodName) jdk_43_method_21_code (1 : Nat) (Option.some Jvm.ClassFile.FieldType.int)).before args0 about1 = true := code_word (m := ⟨24, 1⟩) (meth := k24m1) (c := k24c1) (by decide +kernel) rfl rfl rfl (by decide +kernel)
set_option maxRecDepth 65536 in
theorem w_c27 : (Jvm.Cond.code ({ cls := "jdk/internal/util/ArraysSupport", name := "vectorizedHashCode", desc := "(Ljava/lang/Object;IIII)I" } : Jvm.MethodName) jdk_48_method_4_code (5 : Nat) (Option.some Jvm.ClassFile.FieldType.int)).before args0 about1 = true := code_word (m := ⟨25, 1⟩) (meth := k25m1) (c := k25c1) (by decide +kernel) rfl rfl rfl (by decide +kernel)
set_option maxRecDepth 65536 in
theorem w_c28 : (Jvm.Cond.code ({ cls := "jdk/internal/util/ArraysSupport", name := "signedHashCode", desc := "(I[BII)I" } : Jvm.MethodName) jdk_48_method_5_code (6 : Nat) (Option.some Jvm.ClassFile.FieldType.int)).before args0 about1 = true := code_word (m := ⟨25, 2⟩) (meth := k25m2) (c := k25c2) (by decide +kernel) rfl rfl rfl (by decide +kernel)
set_option maxRecDepth 65536 in
theorem w_c29 : (Jvm.Cond.code ({ cls := "java/util/HashMap", name := "resize", desc := "()[Ljava/util/HashMap$Node;" } : Jvm.MethodName) jdk_69_method_17_code (14 : Nat) (Option.some (Jvm.ClassFile.FieldType.array (Jvm.ClassFile.FieldType.object "java/util/HashMap$Node")))).before args0 about1 = true := code_word (m := ⟨13, 2⟩) (meth := k13m2) (c := k13c2) (by decide +kernel) rfl rfl rfl (by decide +kernel)
set_option maxRecDepth 65536 in
theorem w_c30 : (Jvm.Cond.code ({ cls := "com/example/mandoline/mandoline/Variable", name := "lambda$addField$0", desc := "(Lcom/example/mandoline/mandoline/Place$Field;Ljava/lang/String;)Lcom/example/mandoline/mandoline/Variable;" } : Jvm.MethodName) prog_50_method_15_code (3 : Nat) (Option.some (Jvm.ClassFile.FieldType.object "com/example/mandoline/mandoline/Variable"))).before args0 about1 = true := code_word (m := ⟨9, 5⟩) (meth := k9m5) (c := k9c5) (by decide +kernel) rfl rfl rfl (by decide +kernel)
set_option maxRecDepth 65536 in
theorem w_c31 : (Jvm.Cond.code ({ cls := "com/example/mandoline/mandoline/Place$Field", name := "name", desc := "()Ljava/lang/String;" } : Jvm.MethodName) prog_39_method_6_code (1 : Nat) (Option.some (Jvm.ClassFile.FieldType.object "java/lang/String"))).before args0 about1 = true := code_word (m := ⟨22, 2⟩) (meth := k22m2) (c := k22c2) (by decide +kernel) rfl rfl rfl (by decide +kernel)
set_option maxRecDepth 65536 in
theorem w_c32 : (Jvm.Cond.code ({ cls := "java/lang/String", name := "isEmpty", desc := "()Z" } : Jvm.MethodName) jdk_42_method_55_code (1 : Nat) (Option.some Jvm.ClassFile.FieldType.boolean)).before args0 about1 = true := code_word (m := ⟨7, 4⟩) (meth := k7m4) (c := k7c4) (by decide +kernel) rfl rfl rfl (by decide +kernel)
set_option maxRecDepth 65536 in
theorem w_c33 : (Jvm.Cond.code ({ cls := "java/util/LinkedHashMap", name := "newNode", desc := "(ILjava/lang/Object;Ljava/lang/Object;Ljava/util/HashMap$Node;)Ljava/util/HashMap$Node;" } : Jvm.MethodName) jdk_94_method_4_code (6 : Nat) (Option.some (Jvm.ClassFile.FieldType.object "java/util/HashMap$Node"))).before args0 about1 = true := code_word (m := ⟨15, 1⟩) (meth := k15m1) (c := k15c1) (by decide +kernel) rfl rfl rfl (by decide +kernel)
set_option maxRecDepth 65536 in
theorem w_c34 : (Jvm.Cond.code ({ cls := "java/util/LinkedHashMap$Entry", name := "<init>", desc := "(ILjava/lang/Object;Ljava/lang/Object;Ljava/util/HashMap$Node;)V" } : Jvm.MethodName) jdk_83_method_1_code (5 : Nat) (Option.none : Option Jvm.ClassFile.FieldType)).before args0 about1 = true := code_word (m := ⟨28, 0⟩) (meth := k28m0) (c := k28c0) (by decide +kernel) rfl rfl rfl (by decide +kernel)
set_option maxRecDepth 65536 in
theorem w_c35 : (Jvm.Cond.code ({ cls := "java/util/HashMap$Node", name := "<init>", desc := "(ILjava/lang/Object;Ljava/lang/Object;Ljava/util/HashMap$Node;)V" } : Jvm.MethodName) jdk_70_method_1_code (5 : Nat) (Option.none : Option Jvm.ClassFile.FieldType)).before args0 about1 = true := code_word (m := ⟨27, 0⟩) (meth := k27m0) (c := k27c0) (by decide +kernel) rfl rfl rfl (by decide +kernel)
set_option maxRecDepth 65536 in
theorem w_c36 : (Jvm.Cond.code ({ cls := "java/util/LinkedHashMap", name := "linkNodeAtEnd", desc := "(Ljava/util/LinkedHashMap$Entry;)V" } : Jvm.MethodName) jdk_94_method_1_code (3 : Nat) (Option.none : Option Jvm.ClassFile.FieldType)).before args0 about1 = true := code_word (m := ⟨15, 0⟩) (meth := k15m0) (c := k15c0) (by decide +kernel) rfl rfl rfl (by decide +kernel)
set_option maxRecDepth 65536 in
theorem w_c37 : (Jvm.Cond.code ({ cls := "java/util/LinkedHashMap", name := "afterNodeInsertion", desc := "(Z)V" } : Jvm.MethodName) jdk_94_method_9_code (4 : Nat) (Option.none : Option Jvm.ClassFile.FieldType)).before args0 about1 = true := code_word (m := ⟨15, 2⟩) (meth := k15m2) (c := k15c2) (by decide +kernel) rfl rfl rfl (by decide +kernel)
set_option maxRecDepth 65536 in
theorem w_c38 : (Jvm.Cond.code ({ cls := "java/util/LinkedHashMap", name := "removeEldestEntry", desc := "(Ljava/util/Map$Entry;)Z" } : Jvm.MethodName) jdk_94_method_23_code (2 : Nat) (Option.some Jvm.ClassFile.FieldType.boolean)).before args0 about1 = true := code_word (m := ⟨15, 4⟩) (meth := k15m4) (c := k15c4) (by decide +kernel) rfl rfl rfl (by decide +kernel)
set_option maxRecDepth 65536 in
theorem w_c39 : (Jvm.Cond.code ({ cls := "java/lang/StringBuilder", name := "<init>", desc := "()V" } : Jvm.MethodName) jdk_67_method_1_code (1 : Nat) (Option.none : Option Jvm.ClassFile.FieldType)).before args0 about1 = true := code_word (m := ⟨31, 0⟩) (meth := k31m0) (c := k31c0) (by decide +kernel) rfl rfl rfl (by decide +kernel)
set_option maxRecDepth 65536 in
theorem w_c40 : (Jvm.Cond.code ({ cls := "java/lang/AbstractStringBuilder", name := "<init>", desc := "(I)V" } : Jvm.MethodName) jdk_68_method_2_code (2 : Nat) (Option.none : Option Jvm.ClassFile.FieldType)).before args0 about1 = true := code_word (m := ⟨30, 1⟩) (meth := k30m1) (c := k30c1) (by decide +kernel) rfl rfl rfl (by decide +kernel)
set_option maxRecDepth 65536 in
theorem w_c41 : (Jvm.Cond.code ({ cls := "java/lang/StringBuilder", name := "append", desc := "(Ljava/lang/String;)Ljava/lang/StringBuilder;" } : Jvm.MethodName) jdk_67_method_7_code (2 : Nat) (Option.some (Jvm.ClassFile.FieldType.object "java/lang/StringBuilder"))).before args0 about1 = true := code_word (m := ⟨31, 1⟩) (meth := k31m1) (c := k31c1) (by decide +kernel) rfl rfl rfl (by decide +kernel)
set_option maxRecDepth 65536 in
theorem w_c42 : (Jvm.Cond.code ({ cls := "java/lang/AbstractStringBuilder", name := "append", desc := "(Ljava/lang/String;)Ljava/lang/AbstractStringBuilder;" } : Jvm.MethodName) jdk_68_method_22_code (3 : Nat) (Option.some (Jvm.ClassFile.FieldType.object "java/lang/AbstractStringBuilder"))).before args0 about1 = true := code_word (m := ⟨30, 4⟩) (meth := k30m4) (c := k30c4) (by decide +kernel) rfl rfl rfl (by decide +kernel)
set_option maxRecDepth 65536 in
theorem w_c43 : (Jvm.Cond.code ({ cls := "java/lang/String", name := "length", desc := "()I" } : Jvm.MethodName) jdk_42_method_54_code (1 : Nat) (Option.some Jvm.ClassFile.FieldType.int)).before args0 about1 = true := code_word (m := ⟨7, 3⟩) (meth := k7m3) (c := k7c3) (by decide +kernel) rfl rfl rfl (by decide +kernel)
set_option maxRecDepth 65536 in
theorem w_c44 : (Jvm.Cond.code ({ cls := "java/lang/String", name := "coder", desc := "()B" } : Jvm.MethodName) jdk_42_method_152_code (1 : Nat) (Option.some Jvm.ClassFile.FieldType.byte)).before args0 about1 = true := code_word (m := ⟨7, 10⟩) (meth := k7m10) (c := k7c10) (by decide +kernel) rfl rfl rfl (by decide +kernel)
set_option maxRecDepth 65536 in
theorem w_c45 : (Jvm.Cond.code ({ cls := "java/lang/AbstractStringBuilder", name := "ensureCapacityInternal", desc := "(I)V" } : Jvm.MethodName) jdk_68_method_9_code (3 : Nat) (Option.none : Option Jvm.ClassFile.FieldType)).before args0 about1 = true := code_word (m := ⟨30, 3⟩) (meth := k30m3) (c := k30c3) (by decide +kernel) rfl rfl rfl (by decide +kernel)
set_option maxRecDepth 65536 in
theorem w_c46 : (Jvm.Cond.code ({ cls := "java/lang/AbstractStringBuilder", name := "putStringAt", desc := "(ILjava/lang/String;)V" } : Jvm.MethodName) jdk_68_method_73_code (3 : Nat) (Option.none : Option Jvm.ClassFile.FieldType)).before args0 about1 = true := code_word (m := ⟨30, 8⟩) (meth := k30m8) (c := k30c8) (by decide +kernel) rfl rfl rfl (by decide +kernel)
set_option maxRecDepth 65536 in
theorem w_c47 : (Jvm.Cond.code ({ cls := "java/lang/AbstractStringBuilder", name := "inflateIfNeededFor", desc := "(Ljava/lang/String;)V" } : Jvm.MethodName) jdk_68_method_71_code (2 : Nat) (Option.none : Option Jvm.ClassFile.FieldType)).before args0 about1 = true := code_word (m := ⟨30, 7⟩) (meth := k30m7) (c := k30c7) (by decide +kernel) rfl rfl rfl (by decide +kernel)
set_option maxRecDepth 65536 in
theorem w_c48 : (Jvm.Cond.code ({ cls := "java/lang/String", name := "getBytes", desc := "([BIB)V" } : Jvm.MethodName) jdk_42_method_147_code (4 : Nat) (Option.none : Option Jvm.ClassFile.FieldType)).before args0 about1 = true := code_word (m := ⟨7, 7⟩) (meth := k7m7) (c := k7c7) (by decide +kernel) rfl rfl rfl (by decide +kernel)
set_option maxRecDepth 65536 in
theorem w_c49 : (Jvm.Cond.code ({ cls := "java/lang/StringBuilder", name := "toString", desc := "()Ljava/lang/String;" } : Jvm.MethodName) jdk_67_method_42_code (1 : Nat) (Option.some (Jvm.ClassFile.FieldType.object "java/lang/String"))).before args0 about1 = true := code_word (m := ⟨31, 2⟩) (meth := k31m2) (c := k31c2) (by decide +kernel) rfl rfl rfl (by decide +kernel)
set_option maxRecDepth 65536 in
theorem w_c50 : (Jvm.Cond.code ({ cls := "java/lang/String", name := "<init>", desc := "(Ljava/lang/StringBuilder;)V" } : Jvm.MethodName) jdk_42_method_53_code (2 : Nat) (Option.none : Option Jvm.ClassFile.FieldType)).before args0 about1 = true := code_word (m := ⟨7, 2⟩) (meth := k7m2) (c := k7c2) (by decide +kernel) rfl rfl rfl (by decide +kernel)
set_option maxRecDepth 65536 in
theorem w_c51 : (Jvm.Cond.code ({ cls := "java/lang/String", name := "<init>", desc := "(Ljava/lang/AbstractStringBuilder;Ljava/lang/Void;)V" } : Jvm.MethodName) jdk_42_method_150_code (5 : Nat) (Option.none : Option Jvm.ClassFile.FieldType)).before args0 about1 = true := code_word (m := ⟨7, 9⟩) (meth := k7m9) (c := k7c9) (by decide +kernel) rfl rfl rfl (by decide +kernel)
set_option maxRecDepth 65536 in
theorem w_c52 : (Jvm.Cond.code ({ cls := "java/lang/AbstractStringBuilder", name := "getValue", desc := "()[B" } : Jvm.MethodName) jdk_68_method_64_code (1 : Nat) (Option.some (Jvm.ClassFile.FieldType.array Jvm.ClassFile.FieldType.byte))).before args0 about1 = true := code_word (m := ⟨30, 5⟩) (meth := k30m5) (c := k30c5) (by decide +kernel) rfl rfl rfl (by decide +kernel)
set_option maxRecDepth 65536 in
theorem w_c53 : (Jvm.Cond.code ({ cls := "java/lang/StringBuilder", name := "length", desc := "()I" } : Jvm.MethodName) jdk_67_method_93_code (1 : Nat) (Option.some Jvm.ClassFile.FieldType.int)).before args0 about1 = true := code_word (m := ⟨31, 3⟩) (meth := k31m3) (c := k31c3) (by decide +kernel) rfl rfl rfl (by decide +kernel)
set_option maxRecDepth 65536 in
theorem w_c54 : (Jvm.Cond.code ({ cls := "java/lang/AbstractStringBuilder", name := "length", desc := "()I" } : Jvm.MethodName) jdk_68_method_6_code (1 : Nat) (Option.some Jvm.ClassFile.FieldType.int)).before args0 about1 = true := code_word (m := ⟨30, 2⟩) (meth := k30m2) (c := k30c2) (by decide +kernel) rfl rfl rfl (by decide +kernel)
set_option maxRecDepth 65536 in
theorem w_c55 : (Jvm.Cond.code ({ cls := "java/lang/AbstractStringBuilder", name := "isLatin1", desc := "()Z" } : Jvm.MethodName) jdk_68_method_68_code (1 : Nat) (Option.some Jvm.ClassFile.FieldType.boolean)).before args0 about1 = true := code_word (m := ⟨30, 6⟩) (meth := k30m6) (c := k30c6) (by decide +kernel) rfl rfl rfl (by decide +kernel)
set_option maxRecDepth 65536 in
theorem w_c56 : (Jvm.Cond.code ({ cls := "java/util/Arrays", name := "copyOfRange", desc := "([BII)[B" } : Jvm.MethodName) jdk_65_method_132_code (3 : Nat) (Option.some (Jvm.ClassFile.FieldType.array Jvm.ClassFile.FieldType.byte))).before args0 about1 = true := code_word (m := ⟨33, 2⟩) (meth := k33m2) (c := k33c2) (by decide +kernel) rfl rfl rfl (by decide +kernel)
set_option maxRecDepth 65536 in
theorem w_c57 : (Jvm.Cond.code ({ cls := "java/util/Arrays", name := "copyOfRangeByte", desc := "([BII)[B" } : Jvm.MethodName) jdk_65_method_133_code (5 : Nat) (Option.some (Jvm.ClassFile.FieldType.array Jvm.ClassFile.FieldType.byte))).before args0 about1 = true := code_word (m := ⟨33, 3⟩) (meth := k33m3) (c := k33c3) (by decide +kernel) rfl rfl rfl (by decide +kernel)
set_option maxRecDepth 65536 in
theorem w_c58 : (Jvm.Cond.code ({ cls := "java/util/Arrays", name := "checkLength", desc := "(II)V" } : Jvm.MethodName) jdk_65_method_131_code (2 : Nat) (Option.none : Option Jvm.ClassFile.FieldType)).before args0 about1 = true := code_word (m := ⟨33, 1⟩) (meth := k33m1) (c := k33c1) (by decide +kernel) rfl rfl rfl (by decide +kernel)
set_option maxRecDepth 65536 in
theorem w_c59 : (Jvm.Cond.code ({ cls := "java/lang/Math", name := "min", desc := "(II)I" } : Jvm.MethodName) jdk_29_method_69_code (2 : Nat) (Option.some Jvm.ClassFile.FieldType.int)).before args0 about1 = true := code_word (m := ⟨34, 1⟩) (meth := k34m1) (c := k34c1) (by decide +kernel) rfl rfl rfl (by decide +kernel)
def codes1 : List Jvm.Cond := [Jvm.Cond.code x code maxLocals ret, Jvm.Cond.code ({ cls := "com/example/mandoline/mandoline/VariableFunctionPinLaw", name := "str2", desc := "(I)Ljava/lang/String;" } : Jvm.MethodName) method_2_code (2 : Nat) (Option.some (Jvm.ClassFile.FieldType.object "java/lang/String")), Jvm.Cond.code ({ cls := "java/lang/String", name := "<init>", desc := "([C)V" } : Jvm.MethodName) jdk_42_method_3_code (2 : Nat) (Option.none : Option Jvm.ClassFile.FieldType), Jvm.Cond.code ({ cls := "java/lang/String", name := "<init>", desc := "([CIILjava/lang/Void;)V" } : Jvm.MethodName) jdk_42_method_149_code (6 : Nat) (Option.none : Option Jvm.ClassFile.FieldType), Jvm.Cond.code ({ cls := "java/lang/Object", name := "<init>", desc := "()V" } : Jvm.MethodName) object_method_1_code (1 : Nat) (Option.none : Option Jvm.ClassFile.FieldType), Jvm.Cond.code ({ cls := "java/lang/StringUTF16", name := "compress", desc := "([CII)[B" } : Jvm.MethodName) jdk_52_method_16_code (6 : Nat) (Option.some (Jvm.ClassFile.FieldType.array Jvm.ClassFile.FieldType.byte)), Jvm.Cond.code ({ cls := "java/lang/StringUTF16", name := "compress", desc := "([CI[BII)I" } : Jvm.MethodName) jdk_52_method_21_code (7 : Nat) (Option.some Jvm.ClassFile.FieldType.int), Jvm.Cond.code ({ cls := "java/lang/StringUTF16", name := "coderFromArrayLen", desc := "([BI)B" } : Jvm.MethodName) jdk_52_method_15_code (2 : Nat) (Option.some Jvm.ClassFile.FieldType.byte), Jvm.Cond.code ({ cls := "com/example/mandoline/mandoline/Variable", name := "<init>", desc := "(Ljava/lang/String;Lcom/example/mandoline/mandoline/ClangNode;Ljava/lang/String;)V" } : Jvm.MethodName) prog_50_method_2_code (4 : Nat) (Option.none : Option Jvm.ClassFile.FieldType), Jvm.Cond.code ({ cls := "com/example/mandoline/mandoline/Variable", name := "<init>", desc := "(Ljava/lang/String;Lcom/example/mandoline/mandoline/ClangNode;Ljava/lang/String;Lcom/example/mandoline/mandoline/Variable;)V" } : Jvm.MethodName) prog_50_method_3_code (5 : Nat) (Option.none : Option Jvm.ClassFile.FieldType), Jvm.Cond.code ({ cls := "java/util/LinkedHashMap", name := "<init>", desc := "()V" } : Jvm.MethodName) jdk_94_method_16_code (1 : Nat) (Option.none : Option Jvm.ClassFile.FieldType), Jvm.Cond.code ({ cls := "java/util/HashMap", name := "<init>", desc := "()V" } : Jvm.MethodName) jdk_69_method_7_code (1 : Nat) (Option.none : Option Jvm.ClassFile.FieldType), Jvm.Cond.code ({ cls := "java/util/AbstractMap", name := "<init>", desc := "()V" } : Jvm.MethodName) jdk_71_method_1_code (1 : Nat) (Option.none : Option Jvm.ClassFile.FieldType), Jvm.Cond.code ({ cls := "java/util/List", name := "of", desc := "()Ljava/util/List;" } : Jvm.MethodName) jdk_40_method_36_code (0 : Nat) (Option.some (Jvm.ClassFile.FieldType.object "java/util/List")), Jvm.Cond.code ({ cls := "com/example/mandoline/mandoline/Variable", name := "function", desc := "()Ljava/lang/String;" } : Jvm.MethodName) prog_50_method_8_code (1 : Nat) (Option.some (Jvm.ClassFile.FieldType.object "java/lang/String")), Jvm.Cond.code ({ cls := "com/example/mandoline/mandoline/VariableFunctionPinLaw", name := "same", desc := "(Ljava/lang/String;Ljava/lang/String;)Z" } : Jvm.MethodName) method_3_code (2 : Nat) (Option.some Jvm.ClassFile.FieldType.boolean), Jvm.Cond.code ({ cls := "java/lang/String", name := "equals", desc := "(Ljava/lang/Object;)Z" } : Jvm.MethodName) jdk_42_method_66_code (3 : Nat) (Option.some Jvm.ClassFile.FieldType.boolean), Jvm.Cond.code ({ cls := "com/example/mandoline/mandoline/Variable", name := "<init>", desc := "(Ljava/lang/String;Lcom/example/mandoline/mandoline/ClangNode;)V" } : Jvm.MethodName) prog_50_method_1_code (3 : Nat) (Option.none : Option Jvm.ClassFile.FieldType), Jvm.Cond.code ({ cls := "com/example/mandoline/mandoline/Place$Field", name := "<init>", desc := "(Ljava/lang/String;Ljava/lang/String;)V" } : Jvm.MethodName) prog_39_method_1_code (3 : Nat) (Option.none : Option Jvm.ClassFile.FieldType), Jvm.Cond.code ({ cls := "java/lang/Record", name := "<init>", desc := "()V" } : Jvm.MethodName) jdk_30_method_1_code (1 : Nat) (Option.none : Option Jvm.ClassFile.FieldType), Jvm.Cond.code ({ cls := "com/example/mandoline/mandoline/Variable", name := "addField", desc := "(Lcom/example/mandoline/mandoline/Place$Field;)Lcom/example/mandoline/mandoline/Variable;" } : Jvm.MethodName) prog_50_method_12_code (2 : Nat) (Option.some (Jvm.ClassFile.FieldType.object "com/example/mandoline/mandoline/Variable")), Jvm.Cond.code ({ cls := "com/example/mandoline/mandoline/Place$Field", name := "key", desc := "()Ljava/lang/String;" } : Jvm.MethodName) prog_39_method_5_code (1 : Nat) (Option.some (Jvm.ClassFile.FieldType.object "java/lang/String")), Jvm.Cond.code ({ cls := "java/util/HashMap", name := "computeIfAbsent", desc := "(Ljava/lang/Object;Ljava/util/function/Function;)Ljava/lang/Object;" } : Jvm.MethodName) jdk_69_method_35_code (13 : Nat) (Option.some (Jvm.ClassFile.FieldType.object "java/lang/Object")), Jvm.Cond.code ({ cls := "java/util/HashMap", name := "hash", desc := "(Ljava/lang/Object;)I" } : Jvm.MethodName) jdk_69_method_1_code (2 : Nat) (Option.some Jvm.ClassFile.FieldType.int), Jvm.Cond.code ({ cls := "java/lang/String", name := "hashCode", desc := "()I" } : Jvm.MethodName) jdk_42_method_78_code (2 : Nat) (Option.some Jvm.ClassFile.FieldType.int), Jvm.Cond.code ({ cls := "java/lang/String", name := "isLatin1", desc := "()Z" } : Jvm.MethodName) jdk_42_method_154_code (1 : Nat) (Option.some Jvm.ClassFile.FieldType.boolean), Jvm.Cond.code ({ cls := "java/lang/StringLatin1", name := "hashCode", desc := "([B)I" } : Jvm.MethodName) jdk_43_method_21_code (1 : Nat) (Option.some Jvm.ClassFile.FieldType.int), Jvm.Cond.code ({ cls := "jdk/internal/util/ArraysSupport", name := "vectorizedHashCode", desc := "(Ljava/lang/Object;IIII)I" } : Jvm.MethodName) jdk_48_method_4_code (5 : Nat) (Option.some Jvm.ClassFile.FieldType.int), Jvm.Cond.code ({ cls := "jdk/internal/util/ArraysSupport", name := "signedHashCode", desc := "(I[BII)I" } : Jvm.MethodName) jdk_48_method_5_code (6 : Nat) (Option.some Jvm.ClassFile.FieldType.int), Jvm.Cond.code ({ cls := "java/util/HashMap", name := "resize", desc := "()[Ljava/util/HashMap$Node;" } : Jvm.MethodName) jdk_69_method_17_code (14 : Nat) (Option.some (Jvm.ClassFile.FieldType.array (Jvm.ClassFile.FieldType.object "java/util/HashMap$Node"))), Jvm.Cond.code ({ cls := "com/example/mandoline/mandoline/Variable", name := "lambda$addField$0", desc := "(Lcom/example/mandoline/mandoline/Place$Field;Ljava/lang/String;)Lcom/example/mandoline/mandoline/Variable;" } : Jvm.MethodName) prog_50_method_15_code (3 : Nat) (Option.some (Jvm.ClassFile.FieldType.object "com/example/mandoline/mandoline/Variable")), Jvm.Cond.code ({ cls := "com/example/mandoline/mandoline/Place$Field", name := "name", desc := "()Ljava/lang/String;" } : Jvm.MethodName) prog_39_method_6_code (1 : Nat) (Option.some (Jvm.ClassFile.FieldType.object "java/lang/String")), Jvm.Cond.code ({ cls := "java/lang/String", name := "isEmpty", desc := "()Z" } : Jvm.MethodName) jdk_42_method_55_code (1 : Nat) (Option.some Jvm.ClassFile.FieldType.boolean), Jvm.Cond.code ({ cls := "java/util/LinkedHashMap", name := "newNode", desc := "(ILjava/lang/Object;Ljava/lang/Object;Ljava/util/HashMap$Node;)Ljava/util/HashMap$Node;" } : Jvm.MethodName) jdk_94_method_4_code (6 : Nat) (Option.some (Jvm.ClassFile.FieldType.object "java/util/HashMap$Node")), Jvm.Cond.code ({ cls := "java/util/LinkedHashMap$Entry", name := "<init>", desc := "(ILjava/lang/Object;Ljava/lang/Object;Ljava/util/HashMap$Node;)V" } : Jvm.MethodName) jdk_83_method_1_code (5 : Nat) (Option.none : Option Jvm.ClassFile.FieldType), Jvm.Cond.code ({ cls := "java/util/HashMap$Node", name := "<init>", desc := "(ILjava/lang/Object;Ljava/lang/Object;Ljava/util/HashMap$Node;)V" } : Jvm.MethodName) jdk_70_method_1_code (5 : Nat) (Option.none : Option Jvm.ClassFile.FieldType), Jvm.Cond.code ({ cls := "java/util/LinkedHashMap", name := "linkNodeAtEnd", desc := "(Ljava/util/LinkedHashMap$Entry;)V" } : Jvm.MethodName) jdk_94_method_1_code (3 : Nat) (Option.none : Option Jvm.ClassFile.FieldType), Jvm.Cond.code ({ cls := "java/util/LinkedHashMap", name := "afterNodeInsertion", desc := "(Z)V" } : Jvm.MethodName) jdk_94_method_9_code (4 : Nat) (Option.none : Option Jvm.ClassFile.FieldType), Jvm.Cond.code ({ cls := "java/util/LinkedHashMap", name := "removeEldestEntry", desc := "(Ljava/util/Map$Entry;)Z" } : Jvm.MethodName) jdk_94_method_23_code (2 : Nat) (Option.some Jvm.ClassFile.FieldType.boolean), Jvm.Cond.code ({ cls := "java/lang/StringBuilder", name := "<init>", desc := "()V" } : Jvm.MethodName) jdk_67_method_1_code (1 : Nat) (Option.none : Option Jvm.ClassFile.FieldType), Jvm.Cond.code ({ cls := "java/lang/AbstractStringBuilder", name := "<init>", desc := "(I)V" } : Jvm.MethodName) jdk_68_method_2_code (2 : Nat) (Option.none : Option Jvm.ClassFile.FieldType), Jvm.Cond.code ({ cls := "java/lang/StringBuilder", name := "append", desc := "(Ljava/lang/String;)Ljava/lang/StringBuilder;" } : Jvm.MethodName) jdk_67_method_7_code (2 : Nat) (Option.some (Jvm.ClassFile.FieldType.object "java/lang/StringBuilder")), Jvm.Cond.code ({ cls := "java/lang/AbstractStringBuilder", name := "append", desc := "(Ljava/lang/String;)Ljava/lang/AbstractStringBuilder;" } : Jvm.MethodName) jdk_68_method_22_code (3 : Nat) (Option.some (Jvm.ClassFile.FieldType.object "java/lang/AbstractStringBuilder")), Jvm.Cond.code ({ cls := "java/lang/String", name := "length", desc := "()I" } : Jvm.MethodName) jdk_42_method_54_code (1 : Nat) (Option.some Jvm.ClassFile.FieldType.int), Jvm.Cond.code ({ cls := "java/lang/String", name := "coder", desc := "()B" } : Jvm.MethodName) jdk_42_method_152_code (1 : Nat) (Option.some Jvm.ClassFile.FieldType.byte), Jvm.Cond.code ({ cls := "java/lang/AbstractStringBuilder", name := "ensureCapacityInternal", desc := "(I)V" } : Jvm.MethodName) jdk_68_method_9_code (3 : Nat) (Option.none : Option Jvm.ClassFile.FieldType), Jvm.Cond.code ({ cls := "java/lang/AbstractStringBuilder", name := "putStringAt", desc := "(ILjava/lang/String;)V" } : Jvm.MethodName) jdk_68_method_73_code (3 : Nat) (Option.none : Option Jvm.ClassFile.FieldType), Jvm.Cond.code ({ cls := "java/lang/AbstractStringBuilder", name := "inflateIfNeededFor", desc := "(Ljava/lang/String;)V" } : Jvm.MethodName) jdk_68_method_71_code (2 : Nat) (Option.none : Option Jvm.ClassFile.FieldType), Jvm.Cond.code ({ cls := "java/lang/String", name := "getBytes", desc := "([BIB)V" } : Jvm.MethodName) jdk_42_method_147_code (4 : Nat) (Option.none : Option Jvm.ClassFile.FieldType), Jvm.Cond.code ({ cls := "java/lang/StringBuilder", name := "toString", desc := "()Ljava/lang/String;" } : Jvm.MethodName) jdk_67_method_42_code (1 : Nat) (Option.some (Jvm.ClassFile.FieldType.object "java/lang/String")), Jvm.Cond.code ({ cls := "java/lang/String", name := "<init>", desc := "(Ljava/lang/StringBuilder;)V" } : Jvm.MethodName) jdk_42_method_53_code (2 : Nat) (Option.none : Option Jvm.ClassFile.FieldType), Jvm.Cond.code ({ cls := "java/lang/String", name := "<init>", desc := "(Ljava/lang/AbstractStringBuilder;Ljava/lang/Void;)V" } : Jvm.MethodName) jdk_42_method_150_code (5 : Nat) (Option.none : Option Jvm.ClassFile.FieldType), Jvm.Cond.code ({ cls := "java/lang/AbstractStringBuilder", name := "getValue", desc := "()[B" } : Jvm.MethodName) jdk_68_method_64_code (1 : Nat) (Option.some (Jvm.ClassFile.FieldType.array Jvm.ClassFile.FieldType.byte)), Jvm.Cond.code ({ cls := "java/lang/StringBuilder", name := "length", desc := "()I" } : Jvm.MethodName) jdk_67_method_93_code (1 : Nat) (Option.some Jvm.ClassFile.FieldType.int), Jvm.Cond.code ({ cls := "java/lang/AbstractStringBuilder", name := "length", desc := "()I" } : Jvm.MethodName) jdk_68_method_6_code (1 : Nat) (Option.some Jvm.ClassFile.FieldType.int), Jvm.Cond.code ({ cls := "java/lang/AbstractStringBuilder", name := "isLatin1", desc := "()Z" } : Jvm.MethodName) jdk_68_method_68_code (1 : Nat) (Option.some Jvm.ClassFile.FieldType.boolean), Jvm.Cond.code ({ cls := "java/util/Arrays", name := "copyOfRange", desc := "([BII)[B" } : Jvm.MethodName) jdk_65_method_132_code (3 : Nat) (Option.some (Jvm.ClassFile.FieldType.array Jvm.ClassFile.FieldType.byte)), Jvm.Cond.code ({ cls := "java/util/Arrays", name := "copyOfRangeByte", desc := "([BII)[B" } : Jvm.MethodName) jdk_65_method_133_code (5 : Nat) (Option.some (Jvm.ClassFile.FieldType.array Jvm.ClassFile.FieldType.byte)), Jvm.Cond.code ({ cls := "java/util/Arrays", name := "checkLength", desc := "(II)V" } : Jvm.MethodName) jdk_65_method_131_code (2 : Nat) (Option.none : Option Jvm.ClassFile.FieldType), Jvm.Cond.code ({ cls := "java/lang/Math", name := "min", desc := "(II)I" } : Jvm.MethodName) jdk_29_method_69_code (2 : Nat) (Option.some Jvm.ClassFile.FieldType.int)]
set_option maxRecDepth 65536 in
theorem codes_eq : words1.filter isCode = codes1 := rfl
theorem w_codes : ∀ c ∈ words1.filter isCode, c.before args0 about1 = true := by
  rw [codes_eq]
  intro c hc
  simp only [codes1, List.mem_cons, List.not_mem_nil, or_false] at hc
  rcases hc with rfl | rfl | rfl | rfl | rfl | rfl | rfl | rfl | rfl | rfl | rfl | rfl | rfl | rfl | rfl | rfl | rfl | rfl | rfl | rfl | rfl | rfl | rfl | rfl | rfl | rfl | rfl | rfl | rfl | rfl | rfl | rfl | rfl | rfl | rfl | rfl | rfl | rfl | rfl | rfl | rfl | rfl | rfl | rfl | rfl | rfl | rfl | rfl | rfl | rfl | rfl | rfl | rfl | rfl | rfl | rfl | rfl | rfl | rfl | rfl
  · exact w_c0
  · exact w_c1
  · exact w_c2
  · exact w_c3
  · exact w_c4
  · exact w_c5
  · exact w_c6
  · exact w_c7
  · exact w_c8
  · exact w_c9
  · exact w_c10
  · exact w_c11
  · exact w_c12
  · exact w_c13
  · exact w_c14
  · exact w_c15
  · exact w_c16
  · exact w_c17
  · exact w_c18
  · exact w_c19
  · exact w_c20
  · exact w_c21
  · exact w_c22
  · exact w_c23
  · exact w_c24
  · exact w_c25
  · exact w_c26
  · exact w_c27
  · exact w_c28
  · exact w_c29
  · exact w_c30
  · exact w_c31
  · exact w_c32
  · exact w_c33
  · exact w_c34
  · exact w_c35
  · exact w_c36
  · exact w_c37
  · exact w_c38
  · exact w_c39
  · exact w_c40
  · exact w_c41
  · exact w_c42
  · exact w_c43
  · exact w_c44
  · exact w_c45
  · exact w_c46
  · exact w_c47
  · exact w_c48
  · exact w_c49
  · exact w_c50
  · exact w_c51
  · exact w_c52
  · exact w_c53
  · exact w_c54
  · exact w_c55
  · exact w_c56
  · exact w_c57
  · exact w_c58
  · exact w_c59
set_option maxRecDepth 65536 in
theorem w_t1 : (words1.take 24).all (fun c => isCode c || c.before args0 about1) = true := by decide +kernel
set_option maxRecDepth 65536 in
theorem w_t2 : ((words1.drop 24).take 24).all (fun c => isCode c || c.before args0 about1) = true := by decide +kernel
set_option maxRecDepth 65536 in
theorem w_t3 : (((words1.drop 24).drop 24).take 24).all (fun c => isCode c || c.before args0 about1) = true := by decide +kernel
set_option maxRecDepth 65536 in
theorem w_t4 : ((((words1.drop 24).drop 24).drop 24).take 24).all (fun c => isCode c || c.before args0 about1) = true := by decide +kernel
set_option maxRecDepth 65536 in
theorem w_t5 : (((((words1.drop 24).drop 24).drop 24).drop 24).take 24).all (fun c => isCode c || c.before args0 about1) = true := by decide +kernel
set_option maxRecDepth 65536 in
theorem w_t6 : ((((((words1.drop 24).drop 24).drop 24).drop 24).drop 24).take 24).all (fun c => isCode c || c.before args0 about1) = true := by decide +kernel
set_option maxRecDepth 65536 in
theorem w_t7 : (((((((words1.drop 24).drop 24).drop 24).drop 24).drop 24).drop 24).take 24).all (fun c => isCode c || c.before args0 about1) = true := by decide +kernel
set_option maxRecDepth 65536 in
theorem w_t8 : ((((((((words1.drop 24).drop 24).drop 24).drop 24).drop 24).drop 24).drop 24).take 24).all (fun c => isCode c || c.before args0 about1) = true := by decide +kernel
set_option maxRecDepth 65536 in
theorem w_t9 : (((((((((words1.drop 24).drop 24).drop 24).drop 24).drop 24).drop 24).drop 24).drop 24).take 24).all (fun c => isCode c || c.before args0 about1) = true := by decide +kernel
set_option maxRecDepth 65536 in
theorem w_t10 : ((((((((((words1.drop 24).drop 24).drop 24).drop 24).drop 24).drop 24).drop 24).drop 24).drop 24).take 24).all (fun c => isCode c || c.before args0 about1) = true := by decide +kernel
set_option maxRecDepth 65536 in
theorem w_t11 : (((((((((((words1.drop 24).drop 24).drop 24).drop 24).drop 24).drop 24).drop 24).drop 24).drop 24).drop 24).take 24).all (fun c => isCode c || c.before args0 about1) = true := by decide +kernel
set_option maxRecDepth 65536 in
theorem w_t12 : ((((((((((((words1.drop 24).drop 24).drop 24).drop 24).drop 24).drop 24).drop 24).drop 24).drop 24).drop 24).drop 24).take 24).all (fun c => isCode c || c.before args0 about1) = true := by decide +kernel
set_option maxRecDepth 65536 in
theorem w_t13 : (((((((((((((words1.drop 24).drop 24).drop 24).drop 24).drop 24).drop 24).drop 24).drop 24).drop 24).drop 24).drop 24).drop 24).take 24).all (fun c => isCode c || c.before args0 about1) = true := by decide +kernel
set_option maxRecDepth 65536 in
theorem w_t14 : ((((((((((((((words1.drop 24).drop 24).drop 24).drop 24).drop 24).drop 24).drop 24).drop 24).drop 24).drop 24).drop 24).drop 24).drop 24).take 24).all (fun c => isCode c || c.before args0 about1) = true := by decide +kernel
set_option maxRecDepth 65536 in
theorem w_t15 : (((((((((((((((words1.drop 24).drop 24).drop 24).drop 24).drop 24).drop 24).drop 24).drop 24).drop 24).drop 24).drop 24).drop 24).drop 24).drop 24).take 24).all (fun c => isCode c || c.before args0 about1) = true := by decide +kernel
set_option maxRecDepth 65536 in
theorem w_t16 : (((((((((((((((words1.drop 24).drop 24).drop 24).drop 24).drop 24).drop 24).drop 24).drop 24).drop 24).drop 24).drop 24).drop 24).drop 24).drop 24).drop 24).all (fun c => isCode c || c.before args0 about1) = true := by decide +kernel
theorem w_tables : (allAtoms (Jvm.Cond.code x code maxLocals ret :: tables_1)).before args0 about1 = true := by
  rw [allAtoms_all]
  show words1.all (fun c => c.before args0 about1) = true
  refine all_split ?_ w_codes
  rw [← List.take_append_drop 24 words1, List.all_append, w_t1, ← List.take_append_drop 24 (words1.drop 24), List.all_append, w_t2, ← List.take_append_drop 24 ((words1.drop 24).drop 24), List.all_append, w_t3, ← List.take_append_drop 24 (((words1.drop 24).drop 24).drop 24), List.all_append, w_t4, ← List.take_append_drop 24 ((((words1.drop 24).drop 24).drop 24).drop 24), List.all_append, w_t5, ← List.take_append_drop 24 (((((words1.drop 24).drop 24).drop 24).drop 24).drop 24), List.all_append, w_t6, ← List.take_append_drop 24 ((((((words1.drop 24).drop 24).drop 24).drop 24).drop 24).drop 24), List.all_append, w_t7, ← List.take_append_drop 24 (((((((words1.drop 24).drop 24).drop 24).drop 24).drop 24).drop 24).drop 24), List.all_append, w_t8, ← List.take_append_drop 24 ((((((((words1.drop 24).drop 24).drop 24).drop 24).drop 24).drop 24).drop 24).drop 24), List.all_append, w_t9, ← List.take_append_drop 24 (((((((((words1.drop 24).drop 24).drop 24).drop 24).drop 24).drop 24).drop 24).drop 24).drop 24), List.all_append, w_t10, ← List.take_append_drop 24 ((((((((((words1.drop 24).drop 24).drop 24).drop 24).drop 24).drop 24).drop 24).drop 24).drop 24).drop 24), List.all_append, w_t11, ← List.take_append_drop 24 (((((((((((words1.drop 24).drop 24).drop 24).drop 24).drop 24).drop 24).drop 24).drop 24).drop 24).drop 24).drop 24), List.all_append, w_t12, ← List.take_append_drop 24 ((((((((((((words1.drop 24).drop 24).drop 24).drop 24).drop 24).drop 24).drop 24).drop 24).drop 24).drop 24).drop 24).drop 24), List.all_append, w_t13, ← List.take_append_drop 24 (((((((((((((words1.drop 24).drop 24).drop 24).drop 24).drop 24).drop 24).drop 24).drop 24).drop 24).drop 24).drop 24).drop 24).drop 24), List.all_append, w_t14, ← List.take_append_drop 24 ((((((((((((((words1.drop 24).drop 24).drop 24).drop 24).drop 24).drop 24).drop 24).drop 24).drop 24).drop 24).drop 24).drop 24).drop 24).drop 24), List.all_append, w_t15, w_t16]
  rfl
set_option maxRecDepth 65536 in
theorem w_rest : rest_1_c.before args0 about1 = true := by decide +kernel
set_option maxRecDepth 65536 in
theorem w_case : (Jvm.Cond.and given_1 narrow_1).before args0 about1 = true := by decide +kernel
set_option maxRecDepth 65536 in
theorem w_consts : constsHeld consts_1 about1 := Jvm.Lit.constsHeldB_iff.mp (by decide +kernel)
theorem w_applies : (headSpec (Jvm.Cond.code x code maxLocals ret :: tables_1) room_1).applies x e0.platform about1 = true :=
  (Spec.applies_iff w_frames).mpr ⟨w_running, w_runnable, w_alone, w_named, w_hears, w_ripe, w_room, w_tables⟩
theorem atStart : AtStart classFile x code maxLocals ret World_1 tables_1 room_1 Calls_1 rest_1 Pre_1 launch0 p0 e0 about1 theMethod args0 below0 :=
  ⟨lists_1, trivial, launch0.admits_env _ _ _, launch0.least_env, fairChoices_fair.cas, fairChoices_fair.clock, w_frames, w_args, w_heap, w_applies, ⟨w_consts, trivial⟩, w_rest, w_case⟩
end start1
theorem witness_1 : WitnessClaimed_1 := ⟨start1.p0, start1.e0, start1.about1, start1.theMethod, start1.args0, start1.below0, start1.atStart⟩
end Jvm.Pilot.@@N@@
