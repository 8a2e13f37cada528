import JvmDerived
import JvmDerived.Pilot.@@N@@Statement
import JvmDerived.Pilot.@@N@@Code
set_option linter.unusedVariables false
set_option linter.unusedSimpArgs false
namespace Jvm.Pilot.@@N@@
open Jvm Jvm.ClassFile Sem Op Lib Jvm.Free Jvm.Stand Jvm.LawKit Jvm.RoadKit Bundle Jvm.Pilot.@@N@@.Jvm.D
section OwnKit
variable {p : Program} {l : Launch} {e : Env} {R : Room} {s : State} {m : MethodId} {args : Array Value} {below : List Frame} {meth : Method} {c : Code} {T : State} {locs : List Loc} {cells slots : Nat}
/-- from T with the frame F on top the body ends, and its end is as P says -/
def Rch (p : Program) (e : Env) (below : List Frame) (T : State) (F : JFrame) (P : Outcome → State → Prop) : Prop := ∃ s₂ o, Steps p.tables e below (T.setTop F) s₂ ∧ s₂.status = .running ∧ Ended s₂ below o ∧ P o s₂
theorem Rch.st {P : Outcome → State → Prop} {T T' : State} {F F' : JFrame} (k : ∀ t, Steps p.tables e below (T'.setTop F') t → Steps p.tables e below (T.setTop F) t) (h : Rch p e below T' F' P) : Rch p e below T F P :=
  let ⟨a, o, h1, h2⟩ := h
  ⟨a, o, k _ h1, h2⟩
theorem Rch.sq {P : Outcome → State → Prop} {T T' : State} {F F' : JFrame} (k : Steps p.tables e below (T.setTop F) (T'.setTop F')) (h : Rch p e below T' F' P) : Rch p e below T F P := Rch.st (fun _ q => k.trans q) h
theorem Rch.cast {P : Outcome → State → Prop} {T : State} {F F' : JFrame} (q : F = F') (h : Rch p e below T F' P) : Rch p e below T F P := q ▸ h
/-- a return, as a contract says it -/
def FinP (s : State) (Q : Option Value → Heap → List Loc → Prop) (K N : Nat) (o : Outcome) (U : State) : Prop := ∃ v L, o = .returned v ∧ Q v U.heap L ∧ FrameEnd s o U L K N
theorem Rch.retV (X : Stand p l e R s m args below meth c T locs cells slots) (hx : p.tables.exec = Jvm.exec) {pc : Nat} {Ls : Array Slot} {w : Value} {t : FieldType} {i : Instr} {rest : List Value} {Q : Option Value → Heap → List Loc → Prop} {K N : Nat} (hret : meth.sig.returnType = some t) (hn : narrow t w = w)
    (hi : (i = .ireturn ∧ (t = .int ∨ t = .boolean ∨ t = .byte ∨ t = .char ∨ t = .short) ∧ ∃ z, w = .int z) ∨ (i = .lreturn ∧ t = .long ∧ ∃ z, w = .long z) ∨ (i = .dreturn ∧ t = .double ∧ ∃ z, w = .double z) ∨ (i = .freturn ∧ t = .float ∧ ∃ z, w = .float z) ∨ (i = .areturn ∧ t.isReference = true ∧ w.isRef = true))
    (hd : decode c.code pc = .ok (i, 1)) (hq : Q (some w) T.heap locs) (hk : cells ≤ K) (hs : slots ≤ N) (hlocks : meth.locks = false := by first | assumption | exact BodyLoose.notSynchronized (by assumption) | exact Body.notSynchronized (by assumption)) : Rch p e below T (mkF m pc Ls (w :: rest)) (FinP s Q K N) := by
  obtain ⟨fs, hr, hrun, hended, hW, hsame⟩ := X.leave (v := some w) (fun h => by rw [hret] at h; cases h) hlocks
  exact ⟨_, _, retOut X hx hret hn hi hd hr, hrun, hended, _, _, rfl, hq, ⟨_, rfl⟩, hW, hsame.mono hk hs⟩
theorem Rch.ret0 (X : Stand p l e R s m args below meth c T locs cells slots) (hx : p.tables.exec = Jvm.exec) {pc : Nat} {Ls : Array Slot} {Q : Option Value → Heap → List Loc → Prop} {K N : Nat} (hret : meth.sig.returnType = none)
    (hd : decode c.code pc = .ok (.return_, 1)) (hq : Q none T.heap locs) (hk : cells ≤ K) (hs : slots ≤ N) (hlocks : meth.locks = false := by first | assumption | exact BodyLoose.notSynchronized (by assumption) | exact Body.notSynchronized (by assumption)) : Rch p e below T (mkF m pc Ls []) (FinP s Q K N) := by
  obtain ⟨fs, hr, hrun, hended, hW, hsame⟩ := X.leave (v := none) (fun _ => rfl) hlocks
  exact ⟨_, _, X.returnOut hx hret hd hr, hrun, hended, _, _, rfl, hq, ⟨_, rfl⟩, hW, hsame.mono hk hs⟩
theorem Rnar {t : FieldType} {w : Value} (h : w.isRef = true) : narrow t w = w := by cases w <;> first | (cases t <;> rfl) | (simp [Value.isRef] at h)
theorem Rfit {t : FieldType} {w : Value} (ht : t.isReference = true) (h : w.isRef = true) : fits t w = true := by cases t <;> first | (cases ht; done) | (cases w <;> simp [Value.isRef, fits] at h ⊢)
theorem own_selP {args : Array Value} {y : MethodName} {n : Nat} (wi : (Cond.instantiable y.cls n).before args s = true) (hpriv : s.PrivateAt y) (hinst : (Cond.instanceMethod y).before args s = true) (hy : y.cls ≠ "java/lang/invoke/MethodHandle" ∧ y.cls ≠ "java/lang/invoke/VarHandle") : (Cond.selects y.cls y y).before args s = true := by
  obtain ⟨c2, k2, i1, i2, i3, i4⟩ := Cond.instantiable_spec wi
  exact selects_self_of_private i1 i2 (by simp_all) hpriv hinst hy
theorem lremM {g : JFrame} {target : State} (X : Stand p l e R s m args below meth c T locs cells slots) (hx : p.tables.exec = Jvm.exec) (hg : g.method = m) {x y : Int64} {rest : List Value} (hd : decode c.code g.pc = .ok (.lrem, 1)) (hs : g.stack = .long y :: .long x :: rest) (hy : y ≠ 0)
    (hr : Steps p.tables e below (T.setTop { g with pc := g.pc + 1, stack := .long (x % y) :: rest }) target) : Steps p.tables e below (T.setTop g) target := XT.lrem X.here hx hg hd hs hy (by rw [lrem_mod]; exact hr)
theorem ldc2D {g : JFrame} {target : State} (X : Stand p l e R s m args below meth c T locs cells slots) (hx : p.tables.exec = Jvm.exec) {own : String} {index : Nat} {b : UInt64} (hown : s.vm.findClass own = some m.cls) (hconst : (Cond.constantDouble own index b).before args s = true) (hg : g.method = m) (hd : decode c.code g.pc = .ok (.ldc2_w index, 3))
    (hr : Steps p.tables e below (T.setTop { g with pc := g.pc + 3, stack := .double b :: g.stack }) target) : Steps p.tables e below (T.setTop g) target := X.ldc2DoubleC hx hown hconst hg hd target hr
end OwnKit
/-- what stood at the start Z stands in h; whatever lies at or above n0 is new since then -/
def OldL (Z : State) (n0 : Nat) (h : Heap) : Prop := Z.heap.size ≤ n0 ∧ Ext Z.heap h
theorem OldL.start (s : State) : OldL s s.heap.size s.heap := ⟨Nat.le_refl _, Nat.le_refl _, fun _ _ q => q⟩
theorem OldL.ext {Z : State} {n0 : Nat} {h h' : Heap} (X : OldL Z n0 h) (E : Ext h h') : OldL Z n0 h' := ⟨X.1, Nat.le_trans X.2.1 E.1, fun x c q => E.2 x c (X.2.2 x c q)⟩
theorem OldL.keep {Z : State} {n0 : Nat} {h h' : Heap} {ws : List Addr} (X : OldL Z n0 h) (K : Keep h h' ws) (q : ∀ x ∈ ws, n0 ≤ x) : OldL Z n0 h' := ⟨X.1, Nat.le_trans X.2.1 K.1, fun x c r => K.2.1 x c (X.2.2 x c r) fun z => absurd (Nat.lt_of_lt_of_le (Array.getElem?_eq_some_iff.mp r).1 X.1) (Nat.not_lt.mpr (q x z))⟩
theorem OldL.wr {Z : State} {n0 : Nat} {h h' : Heap} {a : Addr} {sl : Nat} {v : Value} (X : OldL Z n0 h) (W : Wr h h' a sl v) (q : n0 ≤ a) : OldL Z n0 h' := X.keep (Keep.of_wr W) (allS q all0)
theorem OldL.up {Z : State} {n0 : Nat} {h : Heap} {k : Nat} (X : OldL Z n0 h) (q : n0 ≤ k) : OldL Z k h := ⟨Nat.le_trans X.1 q, X.2⟩
theorem own_Fr {k k' : Nat} {L : List Loc} (q : k ≤ k') (N : Fr k' L) : Fr k L := fun y hy => Nat.le_trans q (N y hy)
section OwnArr
variable {p : Program} {l : Launch} {e : Env} {R : Room} {s : State} {m : MethodId} {args : Array Value} {below : List Frame} {meth : Method} {c : Code} {T Z : State} {locs : List Loc} {cells slots : Nat} {h : Heap} {a : Addr} {k : ClassId} {n j x : Int32} {vs : List Value} {d v : Value} {g : JFrame} {rest : List Value} {target : State}
theorem own_alen {ty : FieldType} (X : Stand p l e R s m args below meth c T locs cells slots) (hx : p.tables.exec = Jvm.exec) (hZ : Z.Warmed39 s.vm) (eT : T.heap = h) (V : Arv Z h a k ty n vs d) (hg : g.method = m) (hs : g.stack = .ref a :: rest) (hd : decode c.code g.pc = .ok (.arraylength, 1))
    (hr : Steps p.tables e below (T.setTop { g with pc := g.pc + 1, stack := .int n :: rest }) target) : Steps p.tables e below (T.setTop g) target := by
  obtain ⟨cl, Ar, q, S, M, H, G⟩ := V
  refine X.arraylength hx (by rw [eT]; exact Ar.1) (State.isArrayOf_alike hZ.alike Ar.2.1) hg hs hd _ ?_
  rw [len_of S M]; exact hr
theorem own_ldB (X : Stand p l e R s m args below meth c T locs cells slots) (hx : p.tables.exec = Jvm.exec) (hZ : Z.Warmed39 s.vm) (eT : T.heap = h) (V : Arv Z h a k .byte n vs d) (hj : ¬ j < 0 ∧ j < n) (hv : vs.getD j.toNatClampNeg d = v) (hg : g.method = m) (hs : g.stack = .int j :: .ref a :: rest) (hd : decode c.code g.pc = .ok (.baload, 1))
    (hr : Steps p.tables e below (T.setTop { g with pc := g.pc + 1, stack := v :: rest }) target) : Steps p.tables e below (T.setTop g) target := by
  obtain ⟨cl, Ar, q, S, M, H, G⟩ := V
  exact X.baloadBytes hx (by rw [eT]; exact Ar.1) (State.isArrayOf_alike hZ.alike Ar.2.1) Ar.2.2 (inb_of S hj) (H.at (inb_of S hj) hv) hg hs hd _ hr
theorem own_ldC (X : Stand p l e R s m args below meth c T locs cells slots) (hx : p.tables.exec = Jvm.exec) (hZ : Z.Warmed39 s.vm) (eT : T.heap = h) (V : Arv Z h a k .char n vs d) (hj : ¬ j < 0 ∧ j < n) (hv : vs.getD j.toNatClampNeg d = v) (hg : g.method = m) (hs : g.stack = .int j :: .ref a :: rest) (hd : decode c.code g.pc = .ok (.caload, 1))
    (hr : Steps p.tables e below (T.setTop { g with pc := g.pc + 1, stack := v :: rest }) target) : Steps p.tables e below (T.setTop g) target := by
  obtain ⟨cl, Ar, q, S, M, H, G⟩ := V
  exact X.caload hx (by rw [eT]; exact Ar.1) (State.isArrayOf_alike hZ.alike Ar.2.1) Ar.2.2 (inb_of S hj) (H.at (inb_of S hj) hv) hg hs hd _ hr
theorem own_stC (X : Stand p l e R s m args below meth c T locs cells slots) (hx : p.tables.exec = Jvm.exec) (hZ : Z.Warmed39 s.vm) (eT : T.heap = h) (V : Arv Z h a k .char n vs d) (hj : ¬ j < 0 ∧ j < n) (i : Nat) (hi : j.toNatClampNeg = i) (hl : i < vs.length) (hg : g.method = m) (hs : g.stack = .int x :: .int j :: .ref a :: rest) (hd : decode c.code g.pc = .ok (.castore, 1)) :
    ∃ T' h', Stand p l e R s m args below meth c T' (locs ++ [⟨a, j.toNatClampNeg⟩]) cells slots ∧ T'.heap = h' ∧ Wr h h' a j.toNatClampNeg (.int (nar .char x)) ∧ Arv Z h' a k .char n (vs.set i (.int (nar .char x))) d ∧ ∀ target, Steps p.tables e below (T'.setTop { g with pc := g.pc + 1, stack := rest }) target → Steps p.tables e below (T.setTop g) target := by
  obtain ⟨cl, Ar, q, S, M, H, G⟩ := V
  obtain ⟨T', h', X', e', W, st⟩ := stC X hx hZ eT Ar (inb_of S hj) hg hs hd
  exact ⟨T', h', X', e', W, Arv.set Ar q S M H G (fits_nar_char _) W i hi hl, st⟩
theorem own_stB (X : Stand p l e R s m args below meth c T locs cells slots) (hx : p.tables.exec = Jvm.exec) (hZ : Z.Warmed39 s.vm) (eT : T.heap = h) (V : Arv Z h a k .byte n vs d) (hj : ¬ j < 0 ∧ j < n) (i : Nat) (hi : j.toNatClampNeg = i) (hl : i < vs.length) (hg : g.method = m) (hs : g.stack = .int x :: .int j :: .ref a :: rest) (hd : decode c.code g.pc = .ok (.bastore, 1)) :
    ∃ T' h', Stand p l e R s m args below meth c T' (locs ++ [⟨a, j.toNatClampNeg⟩]) cells slots ∧ T'.heap = h' ∧ Wr h h' a j.toNatClampNeg (.int x.toInt8.toInt32) ∧ Arv Z h' a k .byte n (vs.set i (.int x.toInt8.toInt32)) d ∧ ∀ target, Steps p.tables e below (T'.setTop { g with pc := g.pc + 1, stack := rest }) target → Steps p.tables e below (T.setTop g) target := by
  obtain ⟨cl, Ar, q, S, M, H, G⟩ := V
  obtain ⟨T', h', X', e', W, st⟩ := stB X hx hZ eT Ar (inb_of S hj) hg hs hd
  exact ⟨T', h', X', e', W, Arv.set Ar q S M H G (fits_nar_byte _) W i hi hl, st⟩
end OwnArr
section OwnSteps
variable {p : Program} {l : Launch} {e : Env} {R : Room} {s : State} {m : MethodId} {args : Array Value} {below : List Frame} {meth : Method} {c : Code} {T : State} {locs : List Loc} {cells slots : Nat} {b : ByteArray} {P : Outcome → State → Prop} {Ls l' : Array Slot} {st : List Value} {pc : Nat}
theorem w_iloadN {pc' : Nat} {k : Fin 4} {v : Int32} (X : Stand p l e R s m args below meth c T locs cells slots) (hx : p.tables.exec = Jvm.exec) (hby : c.code = b) (hd : decode b pc = .ok (.iload_n k, 1)) (hl : Ls[k.val]? = some (.val (.int v))) (hp : pc + 1 = pc') (H : Rch p e below T (mkF m pc' Ls (.int v :: st)) P) : Rch p e below T (mkF m pc Ls st) P := by subst hp; exact Rch.st (fun _ q => XS.iloadN X.here hx rfl (hb hby hd) hl q) H
theorem w_iload {pc' : Nat} {k : Nat} {v : Int32} (X : Stand p l e R s m args below meth c T locs cells slots) (hx : p.tables.exec = Jvm.exec) (hby : c.code = b) (hd : decode b pc = .ok (.iload k, 2)) (hl : Ls[k]? = some (.val (.int v))) (hp : pc + 2 = pc') (H : Rch p e below T (mkF m pc' Ls (.int v :: st)) P) : Rch p e below T (mkF m pc Ls st) P := by subst hp; exact Rch.st (fun _ q => XS.iload X.here hx rfl (hb hby hd) hl q) H
theorem w_istoreN {pc' : Nat} {k : Fin 4} {v : Int32} (X : Stand p l e R s m args below meth c T locs cells slots) (hx : p.tables.exec = Jvm.exec) (hby : c.code = b) (hd : decode b pc = .ok (.istore_n k, 1)) (hl : storeLocals Ls k.val (.int v) = some l') (hp : pc + 1 = pc') (H : Rch p e below T (mkF m pc' l' st) P) : Rch p e below T (mkF m pc Ls (.int v :: st)) P := by subst hp; exact Rch.st (fun _ q => XS.istoreN X.here hx rfl (hb hby hd) rfl hl q) H
theorem w_istore {pc' : Nat} {k : Nat} {v : Int32} (X : Stand p l e R s m args below meth c T locs cells slots) (hx : p.tables.exec = Jvm.exec) (hby : c.code = b) (hd : decode b pc = .ok (.istore k, 2)) (hl : storeLocals Ls k (.int v) = some l') (hp : pc + 2 = pc') (H : Rch p e below T (mkF m pc' l' st) P) : Rch p e below T (mkF m pc Ls (.int v :: st)) P := by subst hp; exact Rch.st (fun _ q => XS.istore X.here hx rfl (hb hby hd) rfl hl q) H
theorem w_lloadN {pc' : Nat} {k : Fin 4} {v : Int64} (X : Stand p l e R s m args below meth c T locs cells slots) (hx : p.tables.exec = Jvm.exec) (hby : c.code = b) (hd : decode b pc = .ok (.lload_n k, 1)) (hl : Ls[k.val]? = some (.val (.long v))) (hp : pc + 1 = pc') (H : Rch p e below T (mkF m pc' Ls (.long v :: st)) P) : Rch p e below T (mkF m pc Ls st) P := by subst hp; exact Rch.st (fun _ q => XT.lloadN X.here hx rfl (hb hby hd) hl q) H
theorem w_lload {pc' : Nat} {k : Nat} {v : Int64} (X : Stand p l e R s m args below meth c T locs cells slots) (hx : p.tables.exec = Jvm.exec) (hby : c.code = b) (hd : decode b pc = .ok (.lload k, 2)) (hl : Ls[k]? = some (.val (.long v))) (hp : pc + 2 = pc') (H : Rch p e below T (mkF m pc' Ls (.long v :: st)) P) : Rch p e below T (mkF m pc Ls st) P := by subst hp; exact Rch.st (fun _ q => XT.lload X.here hx rfl (hb hby hd) hl q) H
theorem w_lstoreN {pc' : Nat} {k : Fin 4} {v : Int64} (X : Stand p l e R s m args below meth c T locs cells slots) (hx : p.tables.exec = Jvm.exec) (hby : c.code = b) (hd : decode b pc = .ok (.lstore_n k, 1)) (hl : storeLocals Ls k.val (.long v) = some l') (hp : pc + 1 = pc') (H : Rch p e below T (mkF m pc' l' st) P) : Rch p e below T (mkF m pc Ls (.long v :: st)) P := by subst hp; exact Rch.st (fun _ q => XT.lstoreN X.here hx rfl (hb hby hd) rfl hl q) H
theorem w_lstore {pc' : Nat} {k : Nat} {v : Int64} (X : Stand p l e R s m args below meth c T locs cells slots) (hx : p.tables.exec = Jvm.exec) (hby : c.code = b) (hd : decode b pc = .ok (.lstore k, 2)) (hl : storeLocals Ls k (.long v) = some l') (hp : pc + 2 = pc') (H : Rch p e below T (mkF m pc' l' st) P) : Rch p e below T (mkF m pc Ls (.long v :: st)) P := by subst hp; exact Rch.st (fun _ q => XT.lstore X.here hx rfl (hb hby hd) rfl hl q) H
theorem w_dloadN {pc' : Nat} {k : Fin 4} {v : UInt64} (X : Stand p l e R s m args below meth c T locs cells slots) (hx : p.tables.exec = Jvm.exec) (hby : c.code = b) (hd : decode b pc = .ok (.dload_n k, 1)) (hl : Ls[k.val]? = some (.val (.double v))) (hp : pc + 1 = pc') (H : Rch p e below T (mkF m pc' Ls (.double v :: st)) P) : Rch p e below T (mkF m pc Ls st) P := by subst hp; exact Rch.st (fun _ q => XS.dloadN X.here hx rfl (hb hby hd) hl q) H
theorem w_dload {pc' : Nat} {k : Nat} {v : UInt64} (X : Stand p l e R s m args below meth c T locs cells slots) (hx : p.tables.exec = Jvm.exec) (hby : c.code = b) (hd : decode b pc = .ok (.dload k, 2)) (hl : Ls[k]? = some (.val (.double v))) (hp : pc + 2 = pc') (H : Rch p e below T (mkF m pc' Ls (.double v :: st)) P) : Rch p e below T (mkF m pc Ls st) P := by subst hp; exact Rch.st (fun _ q => XS.dload X.here hx rfl (hb hby hd) hl q) H
theorem w_dstoreN {pc' : Nat} {k : Fin 4} {v : UInt64} (X : Stand p l e R s m args below meth c T locs cells slots) (hx : p.tables.exec = Jvm.exec) (hby : c.code = b) (hd : decode b pc = .ok (.dstore_n k, 1)) (hl : storeLocals Ls k.val (.double v) = some l') (hp : pc + 1 = pc') (H : Rch p e below T (mkF m pc' l' st) P) : Rch p e below T (mkF m pc Ls (.double v :: st)) P := by subst hp; exact Rch.st (fun _ q => XS.dstoreN X.here hx rfl (hb hby hd) rfl hl q) H
theorem w_dstore {pc' : Nat} {k : Nat} {v : UInt64} (X : Stand p l e R s m args below meth c T locs cells slots) (hx : p.tables.exec = Jvm.exec) (hby : c.code = b) (hd : decode b pc = .ok (.dstore k, 2)) (hl : storeLocals Ls k (.double v) = some l') (hp : pc + 2 = pc') (H : Rch p e below T (mkF m pc' l' st) P) : Rch p e below T (mkF m pc Ls (.double v :: st)) P := by subst hp; exact Rch.st (fun _ q => XS.dstore X.here hx rfl (hb hby hd) rfl hl q) H
theorem w_aloadN {pc' : Nat} {k : Fin 4} {v : Value} (X : Stand p l e R s m args below meth c T locs cells slots) (hx : p.tables.exec = Jvm.exec) (hby : c.code = b) (hd : decode b pc = .ok (.aload_n k, 1)) (hl : Ls[k.val]? = some (.val v)) (hv : v.isRef = true) (hp : pc + 1 = pc') (H : Rch p e below T (mkF m pc' Ls (v :: st)) P) : Rch p e below T (mkF m pc Ls st) P := by subst hp; exact Rch.st (fun _ q => XS.aloadN X.here hx rfl (hb hby hd) hl hv q) H
theorem w_aload {pc' : Nat} {k : Nat} {v : Value} (X : Stand p l e R s m args below meth c T locs cells slots) (hx : p.tables.exec = Jvm.exec) (hby : c.code = b) (hd : decode b pc = .ok (.aload k, 2)) (hl : Ls[k]? = some (.val v)) (hv : v.isRef = true) (hp : pc + 2 = pc') (H : Rch p e below T (mkF m pc' Ls (v :: st)) P) : Rch p e below T (mkF m pc Ls st) P := by subst hp; exact Rch.st (fun _ q => XS.aload X.here hx rfl (hb hby hd) hl hv q) H
theorem w_astoreN {pc' : Nat} {k : Fin 4} {v : Value} (X : Stand p l e R s m args below meth c T locs cells slots) (hx : p.tables.exec = Jvm.exec) (hby : c.code = b) (hd : decode b pc = .ok (.astore_n k, 1)) (hv : v.isRef = true) (hl : storeLocals Ls k.val v = some l') (hp : pc + 1 = pc') (H : Rch p e below T (mkF m pc' l' st) P) : Rch p e below T (mkF m pc Ls (v :: st)) P := by subst hp; exact Rch.st (fun _ q => XS.astoreN X.here hx rfl (hb hby hd) rfl hv hl q) H
theorem w_astore {pc' : Nat} {k : Nat} {v : Value} (X : Stand p l e R s m args below meth c T locs cells slots) (hx : p.tables.exec = Jvm.exec) (hby : c.code = b) (hd : decode b pc = .ok (.astore k, 2)) (hv : v.isRef = true) (hl : storeLocals Ls k v = some l') (hp : pc + 2 = pc') (H : Rch p e below T (mkF m pc' l' st) P) : Rch p e below T (mkF m pc Ls (v :: st)) P := by subst hp; exact Rch.st (fun _ q => XS.astore X.here hx rfl (hb hby hd) rfl hv hl q) H
theorem w_iconst {pc' : Nat} {i : Int} {v : Int32} (X : Stand p l e R s m args below meth c T locs cells slots) (hx : p.tables.exec = Jvm.exec) (hby : c.code = b) (hd : decode b pc = .ok (.iconst i, 1)) (hv : Int32.ofInt i = v) (hp : pc + 1 = pc') (H : Rch p e below T (mkF m pc' Ls (.int v :: st)) P) : Rch p e below T (mkF m pc Ls st) P := by subst hp hv; exact Rch.st (fun _ q => XS.iconst X.here hx rfl (hb hby hd)  q) H
theorem w_bipush {pc' : Nat} {i : Int} {v : Int32} (X : Stand p l e R s m args below meth c T locs cells slots) (hx : p.tables.exec = Jvm.exec) (hby : c.code = b) (hd : decode b pc = .ok (.bipush i, 2)) (hv : (Int8.ofInt i).toInt32 = v) (hp : pc + 2 = pc') (H : Rch p e below T (mkF m pc' Ls (.int v :: st)) P) : Rch p e below T (mkF m pc Ls st) P := by subst hp hv; exact Rch.st (fun _ q => XS.bipush X.here hx rfl (hb hby hd)  q) H
theorem w_sipush {pc' : Nat} {i : Int} {v : Int32} (X : Stand p l e R s m args below meth c T locs cells slots) (hx : p.tables.exec = Jvm.exec) (hby : c.code = b) (hd : decode b pc = .ok (.sipush i, 3)) (hv : (Int16.ofInt i).toInt32 = v) (hp : pc + 3 = pc') (H : Rch p e below T (mkF m pc' Ls (.int v :: st)) P) : Rch p e below T (mkF m pc Ls st) P := by subst hp hv; exact Rch.st (fun _ q => XS.sipush X.here hx rfl (hb hby hd)  q) H
theorem w_lconst {pc' : Nat} {k : Fin 2} {v : Int64} (X : Stand p l e R s m args below meth c T locs cells slots) (hx : p.tables.exec = Jvm.exec) (hby : c.code = b) (hd : decode b pc = .ok (.lconst k, 1)) (hv : Int64.ofNat k = v) (hp : pc + 1 = pc') (H : Rch p e below T (mkF m pc' Ls (.long v :: st)) P) : Rch p e below T (mkF m pc Ls st) P := by subst hp hv; exact Rch.st (fun _ q => XT.lconst X.here hx rfl (hb hby hd)  q) H
theorem w_aconstNull {pc' : Nat}  (X : Stand p l e R s m args below meth c T locs cells slots) (hx : p.tables.exec = Jvm.exec) (hby : c.code = b) (hd : decode b pc = .ok (.aconst_null, 1)) (hp : pc + 1 = pc') (H : Rch p e below T (mkF m pc' Ls (.null :: st)) P) : Rch p e below T (mkF m pc Ls st) P := by subst hp; exact Rch.st (fun _ q => XS.aconstNull X.here hx rfl (hb hby hd)  q) H
theorem w_iadd {pc' : Nat} {x y : Int32} (X : Stand p l e R s m args below meth c T locs cells slots) (hx : p.tables.exec = Jvm.exec) (hby : c.code = b) (hd : decode b pc = .ok (.iadd, 1)) (hp : pc + 1 = pc') (H : Rch p e below T (mkF m pc' Ls (.int (x + y) :: st)) P) : Rch p e below T (mkF m pc Ls (.int y :: .int x :: st)) P := by subst hp; exact Rch.st (fun _ q => XS.iadd X.here hx rfl (hb hby hd) rfl q) H
theorem w_isub {pc' : Nat} {x y : Int32} (X : Stand p l e R s m args below meth c T locs cells slots) (hx : p.tables.exec = Jvm.exec) (hby : c.code = b) (hd : decode b pc = .ok (.isub, 1)) (hp : pc + 1 = pc') (H : Rch p e below T (mkF m pc' Ls (.int (x - y) :: st)) P) : Rch p e below T (mkF m pc Ls (.int y :: .int x :: st)) P := by subst hp; exact Rch.st (fun _ q => XS.isub X.here hx rfl (hb hby hd) rfl q) H
theorem w_imul {pc' : Nat} {x y : Int32} (X : Stand p l e R s m args below meth c T locs cells slots) (hx : p.tables.exec = Jvm.exec) (hby : c.code = b) (hd : decode b pc = .ok (.imul, 1)) (hp : pc + 1 = pc') (H : Rch p e below T (mkF m pc' Ls (.int (x * y) :: st)) P) : Rch p e below T (mkF m pc Ls (.int y :: .int x :: st)) P := by subst hp; exact Rch.st (fun _ q => XS.imul X.here hx rfl (hb hby hd) rfl q) H
theorem w_iand {pc' : Nat} {x y : Int32} (X : Stand p l e R s m args below meth c T locs cells slots) (hx : p.tables.exec = Jvm.exec) (hby : c.code = b) (hd : decode b pc = .ok (.iand, 1)) (hp : pc + 1 = pc') (H : Rch p e below T (mkF m pc' Ls (.int (x &&& y) :: st)) P) : Rch p e below T (mkF m pc Ls (.int y :: .int x :: st)) P := by subst hp; exact Rch.st (fun _ q => XS.iand X.here hx rfl (hb hby hd) rfl q) H
theorem w_ior {pc' : Nat} {x y : Int32} (X : Stand p l e R s m args below meth c T locs cells slots) (hx : p.tables.exec = Jvm.exec) (hby : c.code = b) (hd : decode b pc = .ok (.ior, 1)) (hp : pc + 1 = pc') (H : Rch p e below T (mkF m pc' Ls (.int (x ||| y) :: st)) P) : Rch p e below T (mkF m pc Ls (.int y :: .int x :: st)) P := by subst hp; exact Rch.st (fun _ q => XT.ior X.here hx rfl (hb hby hd) rfl q) H
theorem w_ixor {pc' : Nat} {x y : Int32} (X : Stand p l e R s m args below meth c T locs cells slots) (hx : p.tables.exec = Jvm.exec) (hby : c.code = b) (hd : decode b pc = .ok (.ixor, 1)) (hp : pc + 1 = pc') (H : Rch p e below T (mkF m pc' Ls (.int (x ^^^ y) :: st)) P) : Rch p e below T (mkF m pc Ls (.int y :: .int x :: st)) P := by subst hp; exact Rch.st (fun _ q => XT.ixor X.here hx rfl (hb hby hd) rfl q) H
theorem w_ishl {pc' : Nat} {x y : Int32} (X : Stand p l e R s m args below meth c T locs cells slots) (hx : p.tables.exec = Jvm.exec) (hby : c.code = b) (hd : decode b pc = .ok (.ishl, 1)) (hp : pc + 1 = pc') (H : Rch p e below T (mkF m pc' Ls (.int (x <<< (y &&& 31)) :: st)) P) : Rch p e below T (mkF m pc Ls (.int y :: .int x :: st)) P := by subst hp; exact Rch.st (fun _ q => XT.ishl X.here hx rfl (hb hby hd) rfl q) H
theorem w_ishr {pc' : Nat} {x y : Int32} (X : Stand p l e R s m args below meth c T locs cells slots) (hx : p.tables.exec = Jvm.exec) (hby : c.code = b) (hd : decode b pc = .ok (.ishr, 1)) (hp : pc + 1 = pc') (H : Rch p e below T (mkF m pc' Ls (.int (x >>> (y &&& 31)) :: st)) P) : Rch p e below T (mkF m pc Ls (.int y :: .int x :: st)) P := by subst hp; exact Rch.st (fun _ q => XT.ishr X.here hx rfl (hb hby hd) rfl q) H
theorem w_iushr {pc' : Nat} {x y : Int32} (X : Stand p l e R s m args below meth c T locs cells slots) (hx : p.tables.exec = Jvm.exec) (hby : c.code = b) (hd : decode b pc = .ok (.iushr, 1)) (hp : pc + 1 = pc') (H : Rch p e below T (mkF m pc' Ls (.int (XT.ushr x y) :: st)) P) : Rch p e below T (mkF m pc Ls (.int y :: .int x :: st)) P := by subst hp; exact Rch.st (fun _ q => XT.iushr X.here hx rfl (hb hby hd) rfl q) H
theorem w_ladd {pc' : Nat} {x y : Int64} (X : Stand p l e R s m args below meth c T locs cells slots) (hx : p.tables.exec = Jvm.exec) (hby : c.code = b) (hd : decode b pc = .ok (.ladd, 1)) (hp : pc + 1 = pc') (H : Rch p e below T (mkF m pc' Ls (.long (x + y) :: st)) P) : Rch p e below T (mkF m pc Ls (.long y :: .long x :: st)) P := by subst hp; exact Rch.st (fun _ q => XT.ladd X.here hx rfl (hb hby hd) rfl q) H
theorem w_lsub {pc' : Nat} {x y : Int64} (X : Stand p l e R s m args below meth c T locs cells slots) (hx : p.tables.exec = Jvm.exec) (hby : c.code = b) (hd : decode b pc = .ok (.lsub, 1)) (hp : pc + 1 = pc') (H : Rch p e below T (mkF m pc' Ls (.long (x - y) :: st)) P) : Rch p e below T (mkF m pc Ls (.long y :: .long x :: st)) P := by subst hp; exact Rch.st (fun _ q => XT.lsub X.here hx rfl (hb hby hd) rfl q) H
theorem w_lmul {pc' : Nat} {x y : Int64} (X : Stand p l e R s m args below meth c T locs cells slots) (hx : p.tables.exec = Jvm.exec) (hby : c.code = b) (hd : decode b pc = .ok (.lmul, 1)) (hp : pc + 1 = pc') (H : Rch p e below T (mkF m pc' Ls (.long (x * y) :: st)) P) : Rch p e below T (mkF m pc Ls (.long y :: .long x :: st)) P := by subst hp; exact Rch.st (fun _ q => XT.lmul X.here hx rfl (hb hby hd) rfl q) H
theorem w_land {pc' : Nat} {x y : Int64} (X : Stand p l e R s m args below meth c T locs cells slots) (hx : p.tables.exec = Jvm.exec) (hby : c.code = b) (hd : decode b pc = .ok (.land, 1)) (hp : pc + 1 = pc') (H : Rch p e below T (mkF m pc' Ls (.long (x &&& y) :: st)) P) : Rch p e below T (mkF m pc Ls (.long y :: .long x :: st)) P := by subst hp; exact Rch.st (fun _ q => XT.land X.here hx rfl (hb hby hd) rfl q) H
theorem w_lor {pc' : Nat} {x y : Int64} (X : Stand p l e R s m args below meth c T locs cells slots) (hx : p.tables.exec = Jvm.exec) (hby : c.code = b) (hd : decode b pc = .ok (.lor, 1)) (hp : pc + 1 = pc') (H : Rch p e below T (mkF m pc' Ls (.long (x ||| y) :: st)) P) : Rch p e below T (mkF m pc Ls (.long y :: .long x :: st)) P := by subst hp; exact Rch.st (fun _ q => XT.lor X.here hx rfl (hb hby hd) rfl q) H
theorem w_lxor {pc' : Nat} {x y : Int64} (X : Stand p l e R s m args below meth c T locs cells slots) (hx : p.tables.exec = Jvm.exec) (hby : c.code = b) (hd : decode b pc = .ok (.lxor, 1)) (hp : pc + 1 = pc') (H : Rch p e below T (mkF m pc' Ls (.long (x ^^^ y) :: st)) P) : Rch p e below T (mkF m pc Ls (.long y :: .long x :: st)) P := by subst hp; exact Rch.st (fun _ q => XT.lxor X.here hx rfl (hb hby hd) rfl q) H
theorem w_irem {pc' : Nat} {x y : Int32} (X : Stand p l e R s m args below meth c T locs cells slots) (hx : p.tables.exec = Jvm.exec) (hby : c.code = b) (hd : decode b pc = .ok (.irem, 1)) (hy : y ≠ 0) (hp : pc + 1 = pc') (H : Rch p e below T (mkF m pc' Ls (.int (x % y) :: st)) P) : Rch p e below T (mkF m pc Ls (.int y :: .int x :: st)) P := by subst hp; exact Rch.st (fun _ q => iremM X hx rfl (hb hby hd) rfl hy q) H
theorem w_i2c {pc' : Nat} {x : Int32} (X : Stand p l e R s m args below meth c T locs cells slots) (hx : p.tables.exec = Jvm.exec) (hby : c.code = b) (hd : decode b pc = .ok (.i2c, 1)) (hp : pc + 1 = pc') (H : Rch p e below T (mkF m pc' Ls (.int (nar .char x) :: st)) P) : Rch p e below T (mkF m pc Ls (.int x :: st)) P := by subst hp; exact Rch.st (fun _ q => XT.i2c X.here hx rfl (hb hby hd) rfl q) H
theorem w_i2b {pc' : Nat} {x : Int32} (X : Stand p l e R s m args below meth c T locs cells slots) (hx : p.tables.exec = Jvm.exec) (hby : c.code = b) (hd : decode b pc = .ok (.i2b, 1)) (hp : pc + 1 = pc') (H : Rch p e below T (mkF m pc' Ls (.int (x.toInt8.toInt32) :: st)) P) : Rch p e below T (mkF m pc Ls (.int x :: st)) P := by subst hp; exact Rch.st (fun _ q => XT.i2b X.here hx rfl (hb hby hd) rfl q) H
theorem w_i2l {pc' : Nat} {x : Int32} (X : Stand p l e R s m args below meth c T locs cells slots) (hx : p.tables.exec = Jvm.exec) (hby : c.code = b) (hd : decode b pc = .ok (.i2l, 1)) (hp : pc + 1 = pc') (H : Rch p e below T (mkF m pc' Ls (.long (x.toInt64) :: st)) P) : Rch p e below T (mkF m pc Ls (.int x :: st)) P := by subst hp; exact Rch.st (fun _ q => XT.i2l X.here hx rfl (hb hby hd) rfl q) H
theorem w_l2i {pc' : Nat} {x : Int64} (X : Stand p l e R s m args below meth c T locs cells slots) (hx : p.tables.exec = Jvm.exec) (hby : c.code = b) (hd : decode b pc = .ok (.l2i, 1)) (hp : pc + 1 = pc') (H : Rch p e below T (mkF m pc' Ls (.int (x.toInt32) :: st)) P) : Rch p e below T (mkF m pc Ls (.long x :: st)) P := by subst hp; exact Rch.st (fun _ q => XT.l2i X.here hx rfl (hb hby hd) rfl q) H
theorem w_lcmp {pc' : Nat} {x y : Int64} (X : Stand p l e R s m args below meth c T locs cells slots) (hx : p.tables.exec = Jvm.exec) (hby : c.code = b) (hd : decode b pc = .ok (.lcmp, 1)) (hp : pc + 1 = pc') (H : Rch p e below T (mkF m pc' Ls (.int (XT.cmpL x y) :: st)) P) : Rch p e below T (mkF m pc Ls (.long y :: .long x :: st)) P := by subst hp; exact Rch.st (fun _ q => XT.lcmp X.here hx rfl (hb hby hd) rfl q) H
theorem w_dup {pc' : Nat} {v : Value} (X : Stand p l e R s m args below meth c T locs cells slots) (hx : p.tables.exec = Jvm.exec) (hby : c.code = b) (hd : decode b pc = .ok (.dup, 1)) (hc : v.category = 1) (hp : pc + 1 = pc') (H : Rch p e below T (mkF m pc' Ls (v :: v :: st)) P) : Rch p e below T (mkF m pc Ls (v :: st)) P := by subst hp; exact Rch.st (fun _ q => XS.dup X.here hx rfl (hb hby hd) rfl hc q) H
theorem w_pop {pc' : Nat} {v : Value} (X : Stand p l e R s m args below meth c T locs cells slots) (hx : p.tables.exec = Jvm.exec) (hby : c.code = b) (hd : decode b pc = .ok (.pop, 1)) (hc : v.category = 1) (hp : pc + 1 = pc') (H : Rch p e below T (mkF m pc' Ls st) P) : Rch p e below T (mkF m pc Ls (v :: st)) P := by subst hp; exact Rch.st (fun _ q => XT.pop X.here hx rfl (hb hby hd) rfl hc q) H
theorem w_dupX1 {pc' : Nat} {v w : Value} (X : Stand p l e R s m args below meth c T locs cells slots) (hx : p.tables.exec = Jvm.exec) (hby : c.code = b) (hd : decode b pc = .ok (.dup_x1, 1)) (hc : v.category = 1) (hc2 : w.category = 1) (hp : pc + 1 = pc') (H : Rch p e below T (mkF m pc' Ls (v :: w :: v :: st)) P) : Rch p e below T (mkF m pc Ls (v :: w :: st)) P := by subst hp; exact Rch.st (fun _ q => XT.dupX1 X.here hx rfl (hb hby hd) rfl hc hc2 q) H
theorem w_iinc {pc' : Nat} {k : Nat} {i : Int} {v : Int32} {w : Int32} (X : Stand p l e R s m args below meth c T locs cells slots) (hx : p.tables.exec = Jvm.exec) (hby : c.code = b) (hd : decode b pc = .ok (.iinc k i, 3)) (hl : Ls[k]? = some (.val (.int v))) (hw : v + Int32.ofInt i = w) (hs : storeLocals Ls k (.int w) = some l') (hp : pc + 3 = pc') (H : Rch p e below T (mkF m pc' l' st) P) : Rch p e below T (mkF m pc Ls st) P := by subst hp hw; exact Rch.st (fun _ q => XS.iinc X.here hx rfl (hb hby hd) hl hs q) H
theorem w_goto {pc' : Nat} {o : Int}  (X : Stand p l e R s m args below meth c T locs cells slots) (hx : p.tables.exec = Jvm.exec) (hby : c.code = b) (hd : decode b pc = .ok (.goto o, 3)) (ho : 0 ≤ (pc : Int) + o ∧ ((pc : Int) + o).toNat = pc') (H : Rch p e below T (mkF m pc' Ls st) P) : Rch p e below T (mkF m pc Ls st) P := Rch.st (fun _ q => XS.goto X.here hx rfl (pc0 := pc) rfl (hb hby hd)  ho.1 ho.2 q) H
theorem w_ifYes {pc' : Nat} {o : Int} {cd : ClassFile.Cond} {x : Int32} (X : Stand p l e R s m args below meth c T locs cells slots) (hx : p.tables.exec = Jvm.exec) (hby : c.code = b) (hd : decode b pc = .ok (.ifCond cd o, 3)) (hc : ifCond.holds cd x = true) (ho : 0 ≤ (pc : Int) + o ∧ ((pc : Int) + o).toNat = pc') (H : Rch p e below T (mkF m pc' Ls st) P) : Rch p e below T (mkF m pc Ls (.int x :: st)) P := Rch.st (fun _ q => XS.ifYes X.here hx rfl (pc0 := pc) rfl (hb hby hd) rfl hc ho.1 ho.2 q) H
theorem w_icmpYes {pc' : Nat} {o : Int} {cd : ClassFile.Cond} {x y : Int32} (X : Stand p l e R s m args below meth c T locs cells slots) (hx : p.tables.exec = Jvm.exec) (hby : c.code = b) (hd : decode b pc = .ok (.if_icmp cd o, 3)) (hc : if_icmp.holds cd x y = true) (ho : 0 ≤ (pc : Int) + o ∧ ((pc : Int) + o).toNat = pc') (H : Rch p e below T (mkF m pc' Ls st) P) : Rch p e below T (mkF m pc Ls (.int y :: .int x :: st)) P := Rch.st (fun _ q => XS.icmpYes X.here hx rfl (pc0 := pc) rfl (hb hby hd) rfl hc ho.1 ho.2 q) H
theorem w_acmpYes {pc' : Nat} {o : Int} {cd : ClassFile.ACond} {x y : Value} (X : Stand p l e R s m args below meth c T locs cells slots) (hx : p.tables.exec = Jvm.exec) (hby : c.code = b) (hd : decode b pc = .ok (.if_acmp cd o, 3)) (h1 : x.isRef = true) (h2 : y.isRef = true) (hc : XT.acmp cd x y = true) (ho : 0 ≤ (pc : Int) + o ∧ ((pc : Int) + o).toNat = pc') (H : Rch p e below T (mkF m pc' Ls st) P) : Rch p e below T (mkF m pc Ls (y :: x :: st)) P := Rch.st (fun _ q => XT.acmpYes X.here hx rfl (pc0 := pc) rfl (hb hby hd) rfl h1 h2 hc ho.1 ho.2 q) H
theorem w_nullYes {pc' : Nat} {o : Int} {v : Value} (X : Stand p l e R s m args below meth c T locs cells slots) (hx : p.tables.exec = Jvm.exec) (hby : c.code = b) (hd : decode b pc = .ok (.ifnull o, 3)) (hv : v = .null) (ho : 0 ≤ (pc : Int) + o ∧ ((pc : Int) + o).toNat = pc') (H : Rch p e below T (mkF m pc' Ls st) P) : Rch p e below T (mkF m pc Ls (v :: st)) P := Rch.st (fun _ q => XT.nullYes X.here hx rfl (pc0 := pc) rfl (hb hby hd) rfl hv ho.1 ho.2 q) H
theorem w_nonnullYes {pc' : Nat} {o : Int} {v : Value} (X : Stand p l e R s m args below meth c T locs cells slots) (hx : p.tables.exec = Jvm.exec) (hby : c.code = b) (hd : decode b pc = .ok (.ifnonnull o, 3)) (h1 : v.isRef = true) (hv : ¬ v = .null) (ho : 0 ≤ (pc : Int) + o ∧ ((pc : Int) + o).toNat = pc') (H : Rch p e below T (mkF m pc' Ls st) P) : Rch p e below T (mkF m pc Ls (v :: st)) P := Rch.st (fun _ q => XT.nonnullYes X.here hx rfl (pc0 := pc) rfl (hb hby hd) rfl h1 hv ho.1 ho.2 q) H
theorem w_ifNo {pc' : Nat} {o : Int} {cd : ClassFile.Cond} {x : Int32} (X : Stand p l e R s m args below meth c T locs cells slots) (hx : p.tables.exec = Jvm.exec) (hby : c.code = b) (hd : decode b pc = .ok (.ifCond cd o, 3)) (hc : ifCond.holds cd x = false) (hp : pc + 3 = pc') (H : Rch p e below T (mkF m pc' Ls st) P) : Rch p e below T (mkF m pc Ls (.int x :: st)) P := by subst hp; exact Rch.st (fun _ q => XS.ifNo X.here hx rfl (hb hby hd) rfl hc q) H
theorem w_icmpNo {pc' : Nat} {o : Int} {cd : ClassFile.Cond} {x y : Int32} (X : Stand p l e R s m args below meth c T locs cells slots) (hx : p.tables.exec = Jvm.exec) (hby : c.code = b) (hd : decode b pc = .ok (.if_icmp cd o, 3)) (hc : if_icmp.holds cd x y = false) (hp : pc + 3 = pc') (H : Rch p e below T (mkF m pc' Ls st) P) : Rch p e below T (mkF m pc Ls (.int y :: .int x :: st)) P := by subst hp; exact Rch.st (fun _ q => XS.icmpNo X.here hx rfl (hb hby hd) rfl hc q) H
theorem w_acmpNo {pc' : Nat} {o : Int} {cd : ClassFile.ACond} {x y : Value} (X : Stand p l e R s m args below meth c T locs cells slots) (hx : p.tables.exec = Jvm.exec) (hby : c.code = b) (hd : decode b pc = .ok (.if_acmp cd o, 3)) (h1 : x.isRef = true) (h2 : y.isRef = true) (hc : XT.acmp cd x y = false) (hp : pc + 3 = pc') (H : Rch p e below T (mkF m pc' Ls st) P) : Rch p e below T (mkF m pc Ls (y :: x :: st)) P := by subst hp; exact Rch.st (fun _ q => XT.acmpNo X.here hx rfl (hb hby hd) rfl h1 h2 hc q) H
theorem w_nullNo {pc' : Nat} {o : Int} {v : Value} (X : Stand p l e R s m args below meth c T locs cells slots) (hx : p.tables.exec = Jvm.exec) (hby : c.code = b) (hd : decode b pc = .ok (.ifnull o, 3)) (h1 : v.isRef = true) (hv : ¬ v = .null) (hp : pc + 3 = pc') (H : Rch p e below T (mkF m pc' Ls st) P) : Rch p e below T (mkF m pc Ls (v :: st)) P := by subst hp; exact Rch.st (fun _ q => XT.nullNo X.here hx rfl (hb hby hd) rfl h1 hv q) H
theorem w_nonnullNo {pc' : Nat} {o : Int} {v : Value} (X : Stand p l e R s m args below meth c T locs cells slots) (hx : p.tables.exec = Jvm.exec) (hby : c.code = b) (hd : decode b pc = .ok (.ifnonnull o, 3)) (hv : v = .null) (hp : pc + 3 = pc') (H : Rch p e below T (mkF m pc' Ls st) P) : Rch p e below T (mkF m pc Ls (v :: st)) P := by subst hp; exact Rch.st (fun _ q => XT.nonnullNo X.here hx rfl (hb hby hd) rfl hv q) H
end OwnSteps
section OwnWide
variable {p : Program} {l : Launch} {e : Env} {R : Room} {s : State} {m : MethodId} {args : Array Value} {below : List Frame} {meth : Method} {c : Code} {T Z : State} {locs : List Loc} {cells slots : Nat} {vm1 : Vm} {Ts Ts' : List String} {a0 : Array Value} {h : Heap}
/-- a return under the wide frame -/
def FinW (s : State) (Q : Option Value → Heap → Vm → List Loc → Prop) (K N : Nat) (o : Outcome) (U : State) : Prop := ∃ v L, o = .returned v ∧ Q v U.heap U.vm L ∧ ReturnedEndW s o U L K N
theorem Rch.retVW (X : Stand p l e R (s.setVm vm1) m args below meth c T locs cells slots) (hx : p.tables.exec = Jvm.exec) {k0 : Nat} (hS : s.Since vm1 k0) (hk0 : k0 ≤ T.heap.size) {pc : Nat} {Ls : Array Slot} {w : Value} {t : FieldType} {i : Instr} {rest : List Value} {Q : Option Value → Heap → Vm → List Loc → Prop} {K N : Nat} (hret : meth.sig.returnType = some t) (hn : narrow t w = w)
    (hi : (i = .ireturn ∧ (t = .int ∨ t = .boolean ∨ t = .byte ∨ t = .char ∨ t = .short) ∧ ∃ z, w = .int z) ∨ (i = .lreturn ∧ t = .long ∧ ∃ z, w = .long z) ∨ (i = .dreturn ∧ t = .double ∧ ∃ z, w = .double z) ∨ (i = .freturn ∧ t = .float ∧ ∃ z, w = .float z) ∨ (i = .areturn ∧ t.isReference = true ∧ w.isRef = true))
    (hd : decode c.code pc = .ok (i, 1)) (hq : Q (some w) T.heap T.vm locs) (hk : cells ≤ K) (hs : slots ≤ N) (hlocks : meth.locks = false := by first | assumption | exact BodyLoose.notSynchronized (by assumption) | exact Body.notSynchronized (by assumption)) : Rch p e below T (mkF m pc Ls (w :: rest)) (FinW s Q K N) := by
  obtain ⟨fs, hr, hrun, hended, h1, h2, h3, h4⟩ := X.leaveW hS hk0 (v := some w) (fun h => by rw [hret] at h; cases h) hlocks
  exact ⟨_, _, retOut X hx hret hn hi hd hr, hrun, hended, _, _, rfl, hq, h1, h2, h3, h4.mono hk hs⟩
theorem Rch.ret0W (X : Stand p l e R (s.setVm vm1) m args below meth c T locs cells slots) (hx : p.tables.exec = Jvm.exec) {k0 : Nat} (hS : s.Since vm1 k0) (hk0 : k0 ≤ T.heap.size) {pc : Nat} {Ls : Array Slot} {Q : Option Value → Heap → Vm → List Loc → Prop} {K N : Nat} (hret : meth.sig.returnType = none)
    (hd : decode c.code pc = .ok (.return_, 1)) (hq : Q none T.heap T.vm locs) (hk : cells ≤ K) (hs : slots ≤ N) (hlocks : meth.locks = false := by first | assumption | exact BodyLoose.notSynchronized (by assumption) | exact Body.notSynchronized (by assumption)) : Rch p e below T (mkF m pc Ls []) (FinW s Q K N) := by
  obtain ⟨fs, hr, hrun, hended, h1, h2, h3, h4⟩ := X.leaveW hS hk0 (v := none) (fun _ => rfl) hlocks
  exact ⟨_, _, X.returnOut hx hret hd hr, hrun, hended, _, _, rfl, hq, h1, h2, h3, h4.mono hk hs⟩
theorem own_ib {vm : Vm} (I : IB Z s.vm Ts) (hW : s.WarmedH vm) : IB Z vm Ts := by
  obtain ⟨more, h1, h2⟩ := I
  exact ⟨more, by rw [hW.interned_eq]; exact h1, h2⟩
theorem own_ib_mono {vm : Vm} (I : IB Z vm Ts) (hs : ∀ t ∈ Ts, t ∈ Ts') : IB Z vm Ts' := by
  obtain ⟨more, h1, h2⟩ := I
  exact ⟨more, h1, fun q hq => let ⟨t, ht, hd⟩ := h2 q hq; ⟨t, hs t ht, hd⟩⟩
theorem backOfI {y : MethodName} {bytes : ByteArray} {maxL : Nat} {ret : Option FieldType} {rm : Room} {len W : Nat} {as' : Array Value} {Q : Option Value → Heap → Vm → List Loc → Prop}
    (hM : MetFree l y (head1 [Cond.code y bytes maxL ret] rm) (fun a U => a = as' ∧ Z.Warmed39 U.vm ∧ U.heap = h ∧ IB Z U.vm Ts) (fun _ _ _ _ _ => True) (fun _ U o U' => ∃ v L, o = .returned v ∧ Q v U'.heap U'.vm L ∧ ReturnedEndW U o U' L rm.cells rm.slots))
    (hZ : Z.Warmed39 s.vm) (hI : IB Z s.vm Ts) (wc : (Cond.code y bytes maxL ret).before a0 Z = true) (wz : (Cond.initialized y.cls).before a0 Z = true) (hf : rm.frames + 1 ≤ R.frames) (hl : W + (maxL + 11) + rm.locals ≤ R.locals) :
    BackS l R p e below s args y len W (fun A a => a = as' ∧ A.U.heap = h ∧ A.cells + rm.cells ≤ R.cells ∧ A.slots + rm.slots ≤ R.slots)
      (fun A _ v B => ∃ L, Q v B.U.heap B.U.vm L ∧ B.locs = A.locs ++ L ∧ B.cells = A.cells + rm.cells ∧ B.slots = A.slots + rm.slots) :=
  BackS.of_freeW (bytes := bytes) (maxL := maxL) (ret := ret) (E := fun _ _ o t L k n => k = rm.cells ∧ n = rm.slots ∧ ∃ v, o = .returned v ∧ Q v t.heap t.vm L) hM hf hl
    (fun m meth c A a Y hp => have hU : Z.Warmed39 A.U.vm := wtrans hZ Y.warmed
      ⟨by show (Cond.and _ .tt).before a A.U = true; rw [Cond.before_and, mv hU wc]; rfl, mv hU wc, mv hU wz, hp.2.2.1, hp.2.2.2⟩)
    (fun m meth c A a g mk Y hp => ⟨hp.1, wtrans hZ Y.warmed, hp.2.1, own_ib hI Y.warmed⟩) (fun _ _ _ _ _ _ _ _ _ => trivial)
    (fun _ _ _ _ ⟨v, L, h1, h2, h3⟩ => ⟨L, _, _, h3, rfl, rfl, v, h1, h2⟩)
    (fun m meth c A a g mk v t L k n Y hp _ _ ⟨e1, e2, v', e3, e4⟩ => by cases e3; subst e1 e2; exact ⟨L, e4, rfl, rfl, rfl⟩)
end OwnWide
def own_by (c : Int32) : Int32 := (c.toInt8.toInt32).toInt8.toInt32
def own_lo (c : Int32) : Int32 := ((c >>> ((0 : Int32) &&& 31)).toInt8.toInt32).toInt8.toInt32
def own_hi (c : Int32) : Int32 := ((c >>> ((8 : Int32) &&& 31)).toInt8.toInt32).toInt8.toInt32
def own_gc (b0 b1 : Int32) : Int32 := nar .char (((b0 &&& (255 : Int32)) <<< ((0 : Int32) &&& 31)) ||| ((b1 &&& (255 : Int32)) <<< ((8 : Int32) &&& 31)))
theorem own_getput {c : Int32} (h0 : ¬ c < 0) (h1 : ¬ (65535 : Int32) < c) : own_gc (own_lo c) (own_hi c) = c := by
  unfold own_gc own_lo own_hi
  have z0 : (0 : Int32).toInt = 0 := by decide
  have z1 : (65535 : Int32).toInt = 65535 := by decide
  rw [Int32.lt_iff_toInt_lt, z0] at h0
  rw [Int32.lt_iff_toInt_lt, z1] at h1
  have a1 := c_ishr c 0 0 (by decide)
  have a2 := c_ishr c 8 8 (by decide)
  generalize c >>> ((0 : Int32) &&& 31) = s0 at a1 ⊢
  generalize c >>> ((8 : Int32) &&& 31) = s8 at a2 ⊢
  have b1 := c_i2b s0
  have b2 := c_i2b s8
  generalize s0.toInt8.toInt32 = t0 at b1 ⊢
  generalize s8.toInt8.toInt32 = t8 at b2 ⊢
  have d1 := c_i2b t0
  have d2 := c_i2b t8
  generalize t0.toInt8.toInt32 = u0 at d1 ⊢
  generalize t8.toInt8.toInt32 = u8 at d2 ⊢
  have e1 := c_mask u0 255 8 (by decide) (by decide)
  have e2 := c_mask u8 255 8 (by decide) (by decide)
  generalize u0 &&& (255 : Int32) = m0 at e1 ⊢
  generalize u8 &&& (255 : Int32) = m8 at e2 ⊢
  have f1 := c_ishl m0 0 0 (by decide)
  have f2 := c_ishl m8 8 8 (by decide)
  generalize m0 <<< ((0 : Int32) &&& 31) = l0 at f1 ⊢
  generalize m8 <<< ((8 : Int32) &&& 31) = l8 at f2 ⊢
  have r0 := rng32 l0
  have r8 := rng32 l8
  have ev0 : l0.toInt = c.toInt % 256 := by
    simp only [show ((2 ^ 0 : Nat) : Int) = 1 from rfl, show ((2 ^ 8 : Nat) : Int) = 256 from rfl] at a1 a2 e1 e2 f1 f2
    omega
  have ev8 : l8.toInt = c.toInt / 256 * 256 := by
    simp only [show ((2 ^ 0 : Nat) : Int) = 1 from rfl, show ((2 ^ 8 : Nat) : Int) = 256 from rfl] at a1 a2 e1 e2 f1 f2
    omega
  rw [Int32.or_comm]
  have g1 := c_or l8 l0 8 (by decide) 256 rfl (by omega) (by omega) (by omega)
  generalize l8 ||| l0 = q at g1 ⊢
  have g2 : (nar .char q) = q.toUInt32.toUInt16.toUInt32.toInt32 := rfl
  have g3 := c_i2c q
  rw [← g2] at g3
  generalize nar .char q = w at g3 ⊢
  have rq := rng32 q
  exact Int32.toInt_inj.mp (by omega)
theorem own_b8 {c p : Int32} (h0 : ¬ c < 0) (h1 : ¬ (255 : Int32) < c) (hp : p = 34 ∨ p = 96) : own_by c = p ↔ c = p := by
  unfold own_by
  constructor
  · intro h
    have z0 : (0 : Int32).toInt = 0 := by decide
    have z1 : (255 : Int32).toInt = 255 := by decide
    rw [Int32.lt_iff_toInt_lt, z0] at h0
    rw [Int32.lt_iff_toInt_lt, z1] at h1
    have b1 := c_i2b c
    generalize c.toInt8.toInt32 = t at b1 h
    have b2 := c_i2b t
    rw [h] at b2
    have hp' : p.toInt = 34 ∨ p.toInt = 96 := by rcases hp with rfl | rfl <;> decide
    exact Int32.toInt_inj.mp (by omega)
  · rintro rfl
    rcases hp with rfl | rfl <;> decide
/-- what startsWith answers for a first char c and a prefix of one char p -/
def own_sw (c p : Int32) : Int32 := if c = p then 1 else 0
def own_iq (c : Int32) : Int32 := if c = 34 then 1 else if c = 96 then 1 else 0
theorem own_char (x : Int32) : ¬ nar .char x < 0 ∧ ¬ (65535 : Int32) < nar .char x ∧ nar .char (nar .char x) = nar .char x := by
  have h := c_i2c x
  have h2 : nar .char x = x.toUInt32.toUInt16.toUInt32.toInt32 := rfl
  rw [← h2] at h
  have z0 : (0 : Int32).toInt = 0 := by decide
  have z1 : (65535 : Int32).toInt = 65535 := by decide
  refine ⟨by rw [Int32.lt_iff_toInt_lt, z0]; omega, by rw [Int32.lt_iff_toInt_lt, z1]; omega, ?_⟩
  have h3 := c_i2c (nar .char x)
  have h4 : nar .char (nar .char x) = (nar .char x).toUInt32.toUInt16.toUInt32.toInt32 := rfl
  rw [← h4] at h3
  generalize nar .char (nar .char x) = q at h3 ⊢
  generalize nar .char x = r at h h3 ⊢
  exact Int32.toInt_inj.mp (by omega)
theorem own_and3 (x : Int32) : x &&& 3 = 0 ∨ x &&& 3 = 1 ∨ x &&& 3 = 2 ∨ x &&& 3 = 3 := by
  have h := c_and x 3 (by decide)
  have z3 : (3 : Int32).toInt = 3 := by decide
  generalize x &&& 3 = r at h ⊢
  have h4 : r.toInt = 0 ∨ r.toInt = 1 ∨ r.toInt = 2 ∨ r.toInt = 3 := by omega
  rcases h4 with h | h | h | h
  · exact Or.inl (Int32.toInt_inj.mp h)
  · exact Or.inr (Or.inl (Int32.toInt_inj.mp h))
  · exact Or.inr (Or.inr (Or.inl (Int32.toInt_inj.mp h)))
  · exact Or.inr (Or.inr (Or.inr (Int32.toInt_inj.mp h)))
theorem own_eqint {args : Array Value} {s : State} {t : Term} {z : Int32} (h : (Cond.eq t (Term.int z)).value args s none s [] = some true) : t.eval args s none [] s = some (.int z) := by
  obtain ⟨x, y, h1, h2, -, -⟩ := cmp_v (Or.inl h)
  have h3 : y = .int z := Option.some.inj (h2.symm.trans (Term.int_eval z))
  subst h3
  have h4 := h
  simp only [Cond.value, h1, Term.int_eval] at h4
  cases x <;> simp at h4
  rw [h1, h4]
theorem djdk42m152_0 : decode jdk_42_method_152_code 0 = .ok (.getstatic 38, 3) := by decide +kernel
theorem djdk42m152_3 : decode jdk_42_method_152_code 3 = .ok (.ifCond .eq 10, 3) := by decide +kernel
theorem djdk42m152_6 : decode jdk_42_method_152_code 6 = .ok (.aload_n 0, 1) := by decide +kernel
theorem djdk42m152_7 : decode jdk_42_method_152_code 7 = .ok (.getfield 15, 3) := by decide +kernel
theorem djdk42m152_10 : decode jdk_42_method_152_code 10 = .ok (.goto 4, 3) := by decide +kernel
theorem djdk42m152_13 : decode jdk_42_method_152_code 13 = .ok (.iconst 1, 1) := by decide +kernel
theorem djdk42m152_14 : decode jdk_42_method_152_code 14 = .ok (.ireturn, 1) := by decide +kernel
theorem pn_java_lang_String : plainName "java/lang/String" = true := by first | (simp [plainName, overriddenIn]; done) | decide +kernel
theorem ef_rm_coder (m : MethodId) (G1 : Int32) (aa : Addr) (cd : Int32)  : entryFrame m #[(.ref aa)] 1 = mkF m 0 #[.val (.ref aa)] [] := by  first | (simp [entryFrame, mkF, argsToLocals, Value.category, maxLocals]; done) | rfl
def Q_rm_coder (Z : State) (G1 : Int32) (aa : Addr) (cd : Int32) (h0 : Heap) (n0 : Nat) (v : Option Value) (h : Heap) (L : List Loc) : Prop := (v = some (.int cd)) ∧ (Fr n0 L) ∧ (h = h0)
set_option maxRecDepth 65536 in
set_option maxHeartbeats 40000000 in
theorem rm_coder (l : Launch) (Z : State) (a0 : Array Value) (hw : ∀ d ∈ tables_1, d.before a0 Z = true) (ws : List Jvm.Cond) (G1 : Int32) (aa : Addr) (cd : Int32) (h0 : Heap) (n0 : Nat) (Z0 : n0 ≤ h0.size) (O2 : Sta Z Z.heap "java/lang/String" "COMPACT_STRINGS" "Z" (.int G1)) (P5 : ¬ G1 = 0) (f2 : Fld Z h0 aa "java/lang/String" "coder" "B" (.int cd)) (hcd : cd = 0 ∨ cd = 1) (Old0 : OldL Z n0 h0) :
    MetFree l (⟨"java/lang/String", "coder", "()B"⟩ : MethodName) (head1 (Jvm.Cond.code (⟨"java/lang/String", "coder", "()B"⟩ : MethodName) jdk_42_method_152_code 1 (some .byte) :: ws) ({ frames := 0, cells := 0, slots := 0, locals := 0 } : Room)) (fun a U => a = #[(.ref aa)] ∧ Z.Warmed39 U.vm ∧ U.heap = h0) (fun _ _ _ _ _ => True) (fun _ U o U' => ∃ v L, o = .returned v ∧ Q_rm_coder Z G1 aa cd h0 n0 v U'.heap L ∧ FrameEnd U o U' L ({ frames := 0, cells := 0, slots := 0, locals := 0 } : Room).cells ({ frames := 0, cells := 0, slots := 0, locals := 0 } : Room).slots) := by
  refine MetFree.of_bodySF (plainFor_of_name pn_java_lang_String) hisR ?_
  intro p e s m args below meth c s₁ Bd hml0 hP hK
  obtain ⟨rfl, hZ, hh⟩ := hP
  have hx := Bd.exec
  have hby := Bd.bytes
  have hml : c.maxLocals = 1 := hml0
  have hown : s.vm.findClass "java/lang/String" = some m.cls := findClass_of_methodNamed Bd.named
  have hnm := (name_of_methodNamed Bd.named Bd.method).1
  have X0 : Stand p l e ({ frames := 0, cells := 0, slots := 0, locals := 0 } : Room) s m #[(.ref aa)] below meth c s₁ [] 0 0 := Stand.of_body Bd
  have e0 : s₁.heap = h0 := by rw [← hh, Bd.state]; rfl
  have N0 := Fr.nil n0
  have K00 : Keep h0 h0 [] := Keep.refl _ _
  have hlk0 : meth.locks = false := by first | assumption | exact BodyLoose.notSynchronized (by assumption) | exact Body.notSynchronized (by assumption)
  show Rch p e below s₁ (entryFrame m #[(.ref aa)] 1) (FinP s (Q_rm_coder Z G1 aa cd h0 n0) 0 0)
  refine Rch.cast (ef_rm_coder m G1 aa cd) ?_
  show Rch p e below s₁ (mkF m 0 #[.val (.ref aa)] []) _
  obtain ⟨T1, X1, e1, st1⟩ := getS X0 hx hZ hown (host := "") (hw _ (List.mem_of_getElem? (i := 48) rfl)) Via.refl e0 (O2.ext Old0.2) (g := (mkF m 0 #[.val (.ref aa)] [])) rfl (hb hby djdk42m152_0)
  refine Rch.st (fun _ k => st1 _ k) ?_
  show Rch p e below T1 (mkF m 3 #[.val (.ref aa)] [(.int G1)]) _
  refine w_ifNo (pc' := 6) X1 hx hby djdk42m152_3 (XT.i0_eq_f (P5)) rfl ?_
  refine w_aloadN (pc' := 7) X1 hx hby djdk42m152_6 rfl rfl rfl ?_
  obtain ⟨T2, X2, e2, st2⟩ := getF X1 hx hZ hown (host := "") (Or.inl (hw _ (List.mem_of_getElem? (i := 22) rfl))) Via.refl e1 f2 (g := (mkF m 7 #[.val (.ref aa)] [(.ref aa)])) rfl rfl (hb hby djdk42m152_7)
  refine Rch.st (fun _ k => st2 _ k) ?_
  show Rch p e below T2 (mkF m 10 #[.val (.ref aa)] [(.int cd)]) _
  refine w_goto (pc' := 14) X2 hx hby djdk42m152_10 (by decide) ?_
  exact Rch.retV X2 hx Bd.returns (by rcases hcd with rfl | rfl <;> rfl) (Or.inl ⟨rfl, by simp, _, rfl⟩) (hb hby djdk42m152_14) (by rw [e2]; exact ⟨rfl, N0, rfl⟩) (by decide) (by decide)

theorem djdk42m54_0 : decode jdk_42_method_54_code 0 = .ok (.aload_n 0, 1) := by decide +kernel
theorem djdk42m54_1 : decode jdk_42_method_54_code 1 = .ok (.getfield 9, 3) := by decide +kernel
theorem djdk42m54_4 : decode jdk_42_method_54_code 4 = .ok (.arraylength, 1) := by decide +kernel
theorem djdk42m54_5 : decode jdk_42_method_54_code 5 = .ok (.aload_n 0, 1) := by decide +kernel
theorem djdk42m54_6 : decode jdk_42_method_54_code 6 = .ok (.invokevirtual 335, 3) := by decide +kernel
theorem djdk42m54_9 : decode jdk_42_method_54_code 9 = .ok (.ishr, 1) := by decide +kernel
theorem djdk42m54_10 : decode jdk_42_method_54_code 10 = .ok (.ireturn, 1) := by decide +kernel
theorem ef_rm_length (m : MethodId) (G1 : Int32) (aa : Addr) (cd : Int32) (bb : Addr) (kb : ClassId) (nn : Int32) (vs : List Value) (dd : Value)  : entryFrame m #[(.ref aa)] 1 = mkF m 0 #[.val (.ref aa)] [] := by  first | (simp [entryFrame, mkF, argsToLocals, Value.category, maxLocals]; done) | rfl
def Q_rm_length (Z : State) (G1 : Int32) (aa : Addr) (cd : Int32) (bb : Addr) (kb : ClassId) (nn : Int32) (vs : List Value) (dd : Value) (h0 : Heap) (n0 : Nat) (v : Option Value) (h : Heap) (L : List Loc) : Prop := (v = some (.int (nn >>> (cd &&& 31)))) ∧ (Fr n0 L) ∧ (h = h0)
theorem pd___B : parseMethodDescriptor "()B" = some ⟨[], (some .byte)⟩ := by decide +kernel
set_option maxRecDepth 65536 in
set_option maxHeartbeats 40000000 in
theorem rm_length (l : Launch) (Z : State) (a0 : Array Value) (hw : ∀ d ∈ tables_1, d.before a0 Z = true) (ws : List Jvm.Cond) (G1 : Int32) (aa : Addr) (cd : Int32) (bb : Addr) (kb : ClassId) (nn : Int32) (vs : List Value) (dd : Value) (h0 : Heap) (n0 : Nat) (Z0 : n0 ≤ h0.size) (O2 : Sta Z Z.heap "java/lang/String" "COMPACT_STRINGS" "Z" (.int G1)) (P5 : ¬ G1 = 0) (f2 : Fld Z h0 aa "java/lang/String" "coder" "B" (.int cd)) (hcd : cd = 0 ∨ cd = 1) (f4 : Fld Z h0 aa "java/lang/String" "value" "[B" (.ref bb)) (f5 : Arv Z h0 bb kb .byte nn vs dd) (f6 : Exa Z h0 aa "java/lang/String") (Old0 : OldL Z n0 h0) :
    MetFree l (⟨"java/lang/String", "length", "()I"⟩ : MethodName) (head1 (Jvm.Cond.code (⟨"java/lang/String", "length", "()I"⟩ : MethodName) jdk_42_method_54_code 1 (some .int) :: ws) ({ frames := 1, cells := 0, slots := 0, locals := 13 } : Room)) (fun a U => a = #[(.ref aa)] ∧ Z.Warmed39 U.vm ∧ U.heap = h0) (fun _ _ _ _ _ => True) (fun _ U o U' => ∃ v L, o = .returned v ∧ Q_rm_length Z G1 aa cd bb kb nn vs dd h0 n0 v U'.heap L ∧ FrameEnd U o U' L ({ frames := 1, cells := 0, slots := 0, locals := 13 } : Room).cells ({ frames := 1, cells := 0, slots := 0, locals := 13 } : Room).slots) := by
  refine MetFree.of_bodySF (plainFor_of_name pn_java_lang_String) hisR ?_
  intro p e s m args below meth c s₁ Bd hml0 hP hK
  obtain ⟨rfl, hZ, hh⟩ := hP
  have hx := Bd.exec
  have hby := Bd.bytes
  have hml : c.maxLocals = 1 := hml0
  have hown : s.vm.findClass "java/lang/String" = some m.cls := findClass_of_methodNamed Bd.named
  have hnm := (name_of_methodNamed Bd.named Bd.method).1
  have X0 : Stand p l e ({ frames := 1, cells := 0, slots := 0, locals := 13 } : Room) s m #[(.ref aa)] below meth c s₁ [] 0 0 := Stand.of_body Bd
  have e0 : s₁.heap = h0 := by rw [← hh, Bd.state]; rfl
  have N0 := Fr.nil n0
  have K00 : Keep h0 h0 [] := Keep.refl _ _
  have hlk0 : meth.locks = false := by first | assumption | exact BodyLoose.notSynchronized (by assumption) | exact Body.notSynchronized (by assumption)
  show Rch p e below s₁ (entryFrame m #[(.ref aa)] 1) (FinP s (Q_rm_length Z G1 aa cd bb kb nn vs dd h0 n0) 0 0)
  refine Rch.cast (ef_rm_length m G1 aa cd bb kb nn vs dd) ?_
  show Rch p e below s₁ (mkF m 0 #[.val (.ref aa)] []) _
  refine w_aloadN (pc' := 1) X0 hx hby djdk42m54_0 rfl rfl rfl ?_
  obtain ⟨T3, X3, e3, st3⟩ := getF X0 hx hZ hown (host := "") (Or.inl (hw _ (List.mem_of_getElem? (i := 21) rfl))) Via.refl e0 f4 (g := (mkF m 1 #[.val (.ref aa)] [(.ref aa)])) rfl rfl (hb hby djdk42m54_1)
  refine Rch.st (fun _ k => st3 _ k) ?_
  show Rch p e below T3 (mkF m 4 #[.val (.ref aa)] [(.ref bb)]) _
  refine Rch.st (fun _ k => own_alen X3 hx hZ e3 f5 rfl rfl (hb hby djdk42m54_4) k) ?_
  show Rch p e below T3 (mkF m 5 #[.val (.ref aa)] [(.int nn)]) _
  refine w_aloadN (pc' := 6) X3 hx hby djdk42m54_5 rfl rfl rfl ?_
  obtain ⟨cq4, kq4, q4a, q4b, q4c⟩ := isOf hZ e3 f6
  obtain ⟨_, _, ⟨T4, L4, k4, n4⟩, -, X4, ⟨Lc4, hQ4, l4, y4, z4⟩, st4⟩ := X3.virtualBack hx (y := (⟨"java/lang/String", "coder", "()B"⟩ : MethodName)) (z := (⟨"java/lang/String", "coder", "()B"⟩ : MethodName)) hown (mvT hZ (hw _ (List.mem_of_getElem? (i := 43) rfl))) (mvT hZ (hw _ (List.mem_of_getElem? (i := 44) rfl))) (notFace_of_selects (args := #[]) (mvT hZ (hw _ (List.mem_of_getElem? (i := 46) rfl)))) (mvT hZ (hw _ (List.mem_of_getElem? (i := 46) rfl))) (mvT hZ (hw _ (List.mem_of_getElem? (i := 45) rfl))) (by decide) (backOf (W := 1) (rm_coder l Z a0 hw [] G1 aa cd h0 n0 Z0 (O2) (P5) f2 (hcd) Old0) hZ (hw _ (List.mem_of_getElem? (i := 47) rfl)) (hw _ (List.mem_of_getElem? (i := 4) rfl)) (by decide) (by decide)) q4a q4c (g := (mkF m 6 #[.val (.ref aa)] [(.ref aa), (.int nn)])) rfl (by rw [hml]; rfl) (Steps.refl _) (argsL := []) (rest := [(.int nn)]) (lenOf pd___B rfl) rfl (by show 2 * 0 + _ ≤ _; exact Nat.le_of_eq rfl) (hb hby djdk42m54_6) (fun _ _ => ⟨rfl, e3, (by decide : 0 + 0 ≤ _), (by decide : 0 + 0 ≤ _)⟩)
  dsimp only [Pt.U, Pt.locs, Pt.cells, Pt.slots] at X4 l4 y4 z4 st4 hQ4
  subst l4 y4 z4
  obtain ⟨rfl, NQ4, K4⟩ := hQ4
  have N5 := Fr.app N0 NQ4
  refine Rch.st (fun _ k => st4.trans k) ?_
  show Rch p e below T4 (mkF m 9 #[.val (.ref aa)] [(.int cd), (.int nn)]) _
  refine w_ishr (pc' := 10) X4 hx hby djdk42m54_9 rfl ?_
  exact Rch.retV X4 hx Bd.returns rfl (Or.inl ⟨rfl, by simp, _, rfl⟩) (hb hby djdk42m54_10) (by rw [K4]; exact ⟨rfl, N5, rfl⟩) (by decide) (by decide)

theorem djdk52m15_0 : decode jdk_52_method_15_code 0 = .ok (.iload_n 1, 1) := by decide +kernel
theorem djdk52m15_1 : decode jdk_52_method_15_code 1 = .ok (.aload_n 0, 1) := by decide +kernel
theorem djdk52m15_2 : decode jdk_52_method_15_code 2 = .ok (.arraylength, 1) := by decide +kernel
theorem djdk52m15_3 : decode jdk_52_method_15_code 3 = .ok (.isub, 1) := by decide +kernel
theorem djdk52m15_4 : decode jdk_52_method_15_code 4 = .ok (.bipush 31, 2) := by decide +kernel
theorem djdk52m15_6 : decode jdk_52_method_15_code 6 = .ok (.iushr, 1) := by decide +kernel
theorem djdk52m15_7 : decode jdk_52_method_15_code 7 = .ok (.i2b, 1) := by decide +kernel
theorem djdk52m15_8 : decode jdk_52_method_15_code 8 = .ok (.ireturn, 1) := by decide +kernel
theorem pn_java_lang_StringUTF16 : plainName "java/lang/StringUTF16" = true := by first | (simp [plainName, overriddenIn]; done) | decide +kernel
theorem ef_rm_cfl (m : MethodId) (bd : Addr) (kd : ClassId) (nn : Int32) (mm : Int32) (vs : List Value) (dd : Value)  : entryFrame m #[(.ref bd), (.int nn)] 2 = mkF m 0 #[.val (.ref bd), .val (.int nn)] [] := by  first | (simp [entryFrame, mkF, argsToLocals, Value.category, maxLocals]; done) | rfl
def Q_rm_cfl (Z : State) (bd : Addr) (kd : ClassId) (nn : Int32) (mm : Int32) (vs : List Value) (dd : Value) (h0 : Heap) (n0 : Nat) (v : Option Value) (h : Heap) (L : List Loc) : Prop := (v = some (.int ((XT.ushr (nn - mm) (31 : Int32))).toInt8.toInt32)) ∧ (Fr n0 L) ∧ (h = h0)
set_option maxRecDepth 65536 in
set_option maxHeartbeats 40000000 in
theorem rm_cfl (l : Launch) (Z : State) (a0 : Array Value) (hw : ∀ d ∈ tables_1, d.before a0 Z = true) (ws : List Jvm.Cond) (bd : Addr) (kd : ClassId) (nn : Int32) (mm : Int32) (vs : List Value) (dd : Value) (h0 : Heap) (n0 : Nat) (Z0 : n0 ≤ h0.size) (f0 : Arv Z h0 bd kd .byte mm vs dd) :
    MetFree l (⟨"java/lang/StringUTF16", "coderFromArrayLen", "([BI)B"⟩ : MethodName) (head1 (Jvm.Cond.code (⟨"java/lang/StringUTF16", "coderFromArrayLen", "([BI)B"⟩ : MethodName) jdk_52_method_15_code 2 (some .byte) :: ws) ({ frames := 0, cells := 0, slots := 0, locals := 0 } : Room)) (fun a U => a = #[(.ref bd), (.int nn)] ∧ Z.Warmed39 U.vm ∧ U.heap = h0) (fun _ _ _ _ _ => True) (fun _ U o U' => ∃ v L, o = .returned v ∧ Q_rm_cfl Z bd kd nn mm vs dd h0 n0 v U'.heap L ∧ FrameEnd U o U' L ({ frames := 0, cells := 0, slots := 0, locals := 0 } : Room).cells ({ frames := 0, cells := 0, slots := 0, locals := 0 } : Room).slots) := by
  refine MetFree.of_bodySF (plainFor_of_name pn_java_lang_StringUTF16) hisR ?_
  intro p e s m args below meth c s₁ Bd hml0 hP hK
  obtain ⟨rfl, hZ, hh⟩ := hP
  have hx := Bd.exec
  have hby := Bd.bytes
  have hml : c.maxLocals = 2 := hml0
  have hown : s.vm.findClass "java/lang/StringUTF16" = some m.cls := findClass_of_methodNamed Bd.named
  have hnm := (name_of_methodNamed Bd.named Bd.method).1
  have X0 : Stand p l e ({ frames := 0, cells := 0, slots := 0, locals := 0 } : Room) s m #[(.ref bd), (.int nn)] below meth c s₁ [] 0 0 := Stand.of_body Bd
  have e0 : s₁.heap = h0 := by rw [← hh, Bd.state]; rfl
  have N0 := Fr.nil n0
  have K00 : Keep h0 h0 [] := Keep.refl _ _
  have hlk0 : meth.locks = false := by first | assumption | exact BodyLoose.notSynchronized (by assumption) | exact Body.notSynchronized (by assumption)
  show Rch p e below s₁ (entryFrame m #[(.ref bd), (.int nn)] 2) (FinP s (Q_rm_cfl Z bd kd nn mm vs dd h0 n0) 0 0)
  refine Rch.cast (ef_rm_cfl m bd kd nn mm vs dd) ?_
  show Rch p e below s₁ (mkF m 0 #[.val (.ref bd), .val (.int nn)] []) _
  refine w_iloadN (pc' := 1) X0 hx hby djdk52m15_0 rfl rfl ?_
  refine w_aloadN (pc' := 2) X0 hx hby djdk52m15_1 rfl rfl rfl ?_
  refine Rch.st (fun _ k => own_alen X0 hx hZ e0 f0 rfl rfl (hb hby djdk52m15_2) k) ?_
  show Rch p e below s₁ (mkF m 3 #[.val (.ref bd), .val (.int nn)] [(.int mm), (.int nn)]) _
  refine w_isub (pc' := 4) X0 hx hby djdk52m15_3 rfl ?_
  refine w_bipush (pc' := 6) (v := 31) X0 hx hby djdk52m15_4 rfl rfl ?_
  refine w_iushr (pc' := 7) X0 hx hby djdk52m15_6 rfl ?_
  refine w_i2b (pc' := 8) X0 hx hby djdk52m15_7 rfl ?_
  exact Rch.retV X0 hx Bd.returns (XT.narrow_b _) (Or.inl ⟨rfl, by simp, _, rfl⟩) (hb hby djdk52m15_8) (by rw [e0]; exact ⟨rfl, N0, rfl⟩) (by decide) (by decide)

theorem djdk52m4_0 : decode jdk_52_method_4_code 0 = .ok (.getstatic 44, 3) := by decide +kernel
theorem djdk52m4_3 : decode jdk_52_method_4_code 3 = .ok (.ifCond .ne 25, 3) := by decide +kernel
theorem djdk52m4_6 : decode jdk_52_method_4_code 6 = .ok (.iload_n 1, 1) := by decide +kernel
theorem djdk52m4_7 : decode jdk_52_method_4_code 7 = .ok (.ifCond .lt 11, 3) := by decide +kernel
theorem djdk52m4_10 : decode jdk_52_method_4_code 10 = .ok (.iload_n 1, 1) := by decide +kernel
theorem djdk52m4_11 : decode jdk_52_method_4_code 11 = .ok (.aload_n 0, 1) := by decide +kernel
theorem djdk52m4_12 : decode jdk_52_method_4_code 12 = .ok (.invokestatic 48, 3) := by decide +kernel
theorem djdk52m4_15 : decode jdk_52_method_4_code 15 = .ok (.if_icmp .lt 13, 3) := by decide +kernel
theorem djdk52m4_18 : decode jdk_52_method_4_code 18 = .ok (.new 52, 3) := by decide +kernel
theorem djdk52m4_21 : decode jdk_52_method_4_code 21 = .ok (.dup, 1) := by decide +kernel
theorem djdk52m4_22 : decode jdk_52_method_4_code 22 = .ok (.ldc 54, 2) := by decide +kernel
theorem djdk52m4_24 : decode jdk_52_method_4_code 24 = .ok (.invokespecial 56, 3) := by decide +kernel
theorem djdk52m4_27 : decode jdk_52_method_4_code 27 = .ok (.athrow, 1) := by decide +kernel
theorem djdk52m4_28 : decode jdk_52_method_4_code 28 = .ok (.iload_n 1, 1) := by decide +kernel
theorem djdk52m4_29 : decode jdk_52_method_4_code 29 = .ok (.iconst 1, 1) := by decide +kernel
theorem djdk52m4_30 : decode jdk_52_method_4_code 30 = .ok (.ishl, 1) := by decide +kernel
theorem djdk52m4_31 : decode jdk_52_method_4_code 31 = .ok (.istore_n 1, 1) := by decide +kernel
theorem djdk52m4_32 : decode jdk_52_method_4_code 32 = .ok (.aload_n 0, 1) := by decide +kernel
theorem djdk52m4_33 : decode jdk_52_method_4_code 33 = .ok (.iload_n 1, 1) := by decide +kernel
theorem djdk52m4_34 : decode jdk_52_method_4_code 34 = .ok (.iinc 1 1, 3) := by decide +kernel
theorem djdk52m4_37 : decode jdk_52_method_4_code 37 = .ok (.iload_n 2, 1) := by decide +kernel
theorem djdk52m4_38 : decode jdk_52_method_4_code 38 = .ok (.getstatic 59, 3) := by decide +kernel
theorem djdk52m4_41 : decode jdk_52_method_4_code 41 = .ok (.ishr, 1) := by decide +kernel
theorem djdk52m4_42 : decode jdk_52_method_4_code 42 = .ok (.i2b, 1) := by decide +kernel
theorem djdk52m4_43 : decode jdk_52_method_4_code 43 = .ok (.bastore, 1) := by decide +kernel
theorem djdk52m4_44 : decode jdk_52_method_4_code 44 = .ok (.aload_n 0, 1) := by decide +kernel
theorem djdk52m4_45 : decode jdk_52_method_4_code 45 = .ok (.iload_n 1, 1) := by decide +kernel
theorem djdk52m4_46 : decode jdk_52_method_4_code 46 = .ok (.iload_n 2, 1) := by decide +kernel
theorem djdk52m4_47 : decode jdk_52_method_4_code 47 = .ok (.getstatic 63, 3) := by decide +kernel
theorem djdk52m4_50 : decode jdk_52_method_4_code 50 = .ok (.ishr, 1) := by decide +kernel
theorem djdk52m4_51 : decode jdk_52_method_4_code 51 = .ok (.i2b, 1) := by decide +kernel
theorem djdk52m4_52 : decode jdk_52_method_4_code 52 = .ok (.bastore, 1) := by decide +kernel
theorem djdk52m4_53 : decode jdk_52_method_4_code 53 = .ok (.return_, 1) := by decide +kernel
theorem ef_rm_put_0 (m : MethodId) (bb : Addr) (kb : ClassId) (nn : Int32) (vs : List Value) (dd : Value) (cc : Int32)  : entryFrame m #[(.ref bb), (.int (0 : Int32)), (.int cc)] 3 = mkF m 0 #[.val (.ref bb), .val (.int (0 : Int32)), .val (.int cc)] [] := by  first | (simp [entryFrame, mkF, argsToLocals, Value.category, maxLocals]; done) | rfl
def Q_rm_put_0 (Z : State) (bb : Addr) (kb : ClassId) (nn : Int32) (vs : List Value) (dd : Value) (cc : Int32) (h0 : Heap) (n0 : Nat) (v : Option Value) (h : Heap) (L : List Loc) : Prop := (v = none) ∧ (Fr n0 L) ∧ (Keep h0 h [bb]) ∧ (Arv Z h bb kb .byte nn ((vs.set 0 (.int (own_lo cc))).set 1 (.int (own_hi cc))) dd)
set_option maxRecDepth 65536 in
set_option maxHeartbeats 40000000 in
theorem rm_put_0 (l : Launch) (Z : State) (a0 : Array Value) (hw : ∀ d ∈ tables_1, d.before a0 Z = true) (ws : List Jvm.Cond) (bb : Addr) (kb : ClassId) (nn : Int32) (vs : List Value) (dd : Value) (cc : Int32) (h0 : Heap) (n0 : Nat) (Z0 : n0 ≤ h0.size) (SA : Sta Z Z.heap "java/lang/StringUTF16" "$assertionsDisabled" "Z" (.int 1)) (SH : Sta Z Z.heap "java/lang/StringUTF16" "HI_BYTE_SHIFT" "I" (.int 0)) (SL : Sta Z Z.heap "java/lang/StringUTF16" "LO_BYTE_SHIFT" "I" (.int 8)) (f3 : Arv Z h0 bb kb .byte nn vs dd) (gb : n0 ≤ bb) (hn : (1 : Int32) < nn) (hn0 : (0 : Int32) < nn) (hl : 1 < vs.length) (Old0 : OldL Z n0 h0) :
    MetFree l (⟨"java/lang/StringUTF16", "putChar", "([BII)V"⟩ : MethodName) (head1 (Jvm.Cond.code (⟨"java/lang/StringUTF16", "putChar", "([BII)V"⟩ : MethodName) jdk_52_method_4_code 3 none :: ws) ({ frames := 0, cells := 0, slots := 0, locals := 0 } : Room)) (fun a U => a = #[(.ref bb), (.int (0 : Int32)), (.int cc)] ∧ Z.Warmed39 U.vm ∧ U.heap = h0) (fun _ _ _ _ _ => True) (fun _ U o U' => ∃ v L, o = .returned v ∧ Q_rm_put_0 Z bb kb nn vs dd cc h0 n0 v U'.heap L ∧ FrameEnd U o U' L ({ frames := 0, cells := 0, slots := 0, locals := 0 } : Room).cells ({ frames := 0, cells := 0, slots := 0, locals := 0 } : Room).slots) := by
  refine MetFree.of_bodySF (plainFor_of_name pn_java_lang_StringUTF16) hisR ?_
  intro p e s m args below meth c s₁ Bd hml0 hP hK
  obtain ⟨rfl, hZ, hh⟩ := hP
  have hx := Bd.exec
  have hby := Bd.bytes
  have hml : c.maxLocals = 3 := hml0
  have hown : s.vm.findClass "java/lang/StringUTF16" = some m.cls := findClass_of_methodNamed Bd.named
  have hnm := (name_of_methodNamed Bd.named Bd.method).1
  have X0 : Stand p l e ({ frames := 0, cells := 0, slots := 0, locals := 0 } : Room) s m #[(.ref bb), (.int (0 : Int32)), (.int cc)] below meth c s₁ [] 0 0 := Stand.of_body Bd
  have e0 : s₁.heap = h0 := by rw [← hh, Bd.state]; rfl
  have N0 := Fr.nil n0
  have K00 : Keep h0 h0 [bb] := Keep.refl _ _
  have hlk0 : meth.locks = false := by first | assumption | exact BodyLoose.notSynchronized (by assumption) | exact Body.notSynchronized (by assumption)
  show Rch p e below s₁ (entryFrame m #[(.ref bb), (.int (0 : Int32)), (.int cc)] 3) (FinP s (Q_rm_put_0 Z bb kb nn vs dd cc h0 n0) 0 0)
  refine Rch.cast (ef_rm_put_0 m bb kb nn vs dd cc) ?_
  show Rch p e below s₁ (mkF m 0 #[.val (.ref bb), .val (.int (0 : Int32)), .val (.int cc)] []) _
  obtain ⟨T6, X6, e6, st6⟩ := getS X0 hx hZ hown (host := "") (hw _ (List.mem_of_getElem? (i := 77) rfl)) Via.refl e0 (SA.ext Old0.2) (g := (mkF m 0 #[.val (.ref bb), .val (.int (0 : Int32)), .val (.int cc)] [])) rfl (hb hby djdk52m4_0)
  refine Rch.st (fun _ k => st6 _ k) ?_
  show Rch p e below T6 (mkF m 3 #[.val (.ref bb), .val (.int (0 : Int32)), .val (.int cc)] [(.int (1 : Int32))]) _
  refine w_ifYes (pc' := 28) X6 hx hby djdk52m4_3 (XT.i0_ne_t (by decide)) (by decide) ?_
  refine w_iloadN (pc' := 29) X6 hx hby djdk52m4_28 rfl rfl ?_
  refine w_iconst (pc' := 30) (v := 1) X6 hx hby djdk52m4_29 rfl rfl ?_
  refine w_ishl (pc' := 31) X6 hx hby djdk52m4_30 rfl ?_
  have r7 : ((0 : Int32) <<< ((1 : Int32) &&& 31)) = (0 : Int32) := by decide
  rw [r7]
  show Rch p e below T6 (mkF m 31 #[.val (.ref bb), .val (.int (0 : Int32)), .val (.int cc)] [(.int (0 : Int32))]) _
  refine w_istoreN (pc' := 32) (l' := #[.val (.ref bb), .val (.int (0 : Int32)), .val (.int cc)]) X6 hx hby djdk52m4_31 rfl rfl ?_
  refine w_aloadN (pc' := 33) X6 hx hby djdk52m4_32 rfl rfl rfl ?_
  refine w_iloadN (pc' := 34) X6 hx hby djdk52m4_33 rfl rfl ?_
  refine w_iinc (pc' := 37) (w := (1 : Int32)) (l' := #[.val (.ref bb), .val (.int (1 : Int32)), .val (.int cc)]) X6 hx hby djdk52m4_34 rfl (by decide) rfl rfl ?_
  refine w_iloadN (pc' := 38) X6 hx hby djdk52m4_37 rfl rfl ?_
  obtain ⟨T8, X8, e8, st8⟩ := getS X6 hx hZ hown (host := "") (hw _ (List.mem_of_getElem? (i := 78) rfl)) Via.refl e6 (SH.ext Old0.2) (g := (mkF m 38 #[.val (.ref bb), .val (.int (1 : Int32)), .val (.int cc)] [(.int cc), (.int (0 : Int32)), (.ref bb)])) rfl (hb hby djdk52m4_38)
  refine Rch.st (fun _ k => st8 _ k) ?_
  show Rch p e below T8 (mkF m 41 #[.val (.ref bb), .val (.int (1 : Int32)), .val (.int cc)] [(.int (0 : Int32)), (.int cc), (.int (0 : Int32)), (.ref bb)]) _
  refine w_ishr (pc' := 42) X8 hx hby djdk52m4_41 rfl ?_
  refine w_i2b (pc' := 43) X8 hx hby djdk52m4_42 rfl ?_
  obtain ⟨T9, h9, X9, e9, W9, V9, st9⟩ := own_stB X8 hx hZ e8 f3 (j := (0 : Int32)) (⟨by decide, hn0⟩) 0 (by decide) (by omega) (g := (mkF m 43 #[.val (.ref bb), .val (.int (1 : Int32)), .val (.int cc)] [(.int ((cc >>> ((0 : Int32) &&& 31))).toInt8.toInt32), (.int (0 : Int32)), (.ref bb)])) rfl rfl (hb hby djdk52m4_43)
  have N10 := Fr.snoc X9 N0 gb
  have Old11 := Old0.wr W9 gb
  have Z12 := Nat.le_trans Z0 (Keep.of_wr W9).1
  have Kp13 : Keep h0 h9 [bb] := K00.wr W9 (Or.inl (List.mem_of_getElem? (i := 0) rfl))
  have f14 : Arv Z h9 bb kb .byte nn (vs.set 0 (.int (((cc >>> ((0 : Int32) &&& 31))).toInt8.toInt32).toInt8.toInt32)) dd := V9
  refine Rch.st (fun _ k => st9 _ k) ?_
  show Rch p e below T9 (mkF m 44 #[.val (.ref bb), .val (.int (1 : Int32)), .val (.int cc)] []) _
  refine w_aloadN (pc' := 45) X9 hx hby djdk52m4_44 rfl rfl rfl ?_
  refine w_iloadN (pc' := 46) X9 hx hby djdk52m4_45 rfl rfl ?_
  refine w_iloadN (pc' := 47) X9 hx hby djdk52m4_46 rfl rfl ?_
  obtain ⟨T15, X15, e15, st15⟩ := getS X9 hx hZ hown (host := "") (hw _ (List.mem_of_getElem? (i := 79) rfl)) Via.refl e9 (SL.ext Old11.2) (g := (mkF m 47 #[.val (.ref bb), .val (.int (1 : Int32)), .val (.int cc)] [(.int cc), (.int (1 : Int32)), (.ref bb)])) rfl (hb hby djdk52m4_47)
  refine Rch.st (fun _ k => st15 _ k) ?_
  show Rch p e below T15 (mkF m 50 #[.val (.ref bb), .val (.int (1 : Int32)), .val (.int cc)] [(.int (8 : Int32)), (.int cc), (.int (1 : Int32)), (.ref bb)]) _
  refine w_ishr (pc' := 51) X15 hx hby djdk52m4_50 rfl ?_
  refine w_i2b (pc' := 52) X15 hx hby djdk52m4_51 rfl ?_
  obtain ⟨T16, h16, X16, e16, W16, V16, st16⟩ := own_stB X15 hx hZ e15 f14 (j := (1 : Int32)) (⟨by decide, hn⟩) 1 (by decide) (by rw [List.length_set]; exact hl) (g := (mkF m 52 #[.val (.ref bb), .val (.int (1 : Int32)), .val (.int cc)] [(.int ((cc >>> ((8 : Int32) &&& 31))).toInt8.toInt32), (.int (1 : Int32)), (.ref bb)])) rfl rfl (hb hby djdk52m4_52)
  have N17 := Fr.snoc X16 N10 gb
  have Old18 := Old11.wr W16 gb
  have Z19 := Nat.le_trans Z12 (Keep.of_wr W16).1
  have Kp20 : Keep h0 h16 [bb] := Kp13.wr W16 (Or.inl (List.mem_of_getElem? (i := 0) rfl))
  have f21 : Arv Z h16 bb kb .byte nn ((vs.set 0 (.int (((cc >>> ((0 : Int32) &&& 31))).toInt8.toInt32).toInt8.toInt32)).set 1 (.int (((cc >>> ((8 : Int32) &&& 31))).toInt8.toInt32).toInt8.toInt32)) dd := V16
  refine Rch.st (fun _ k => st16 _ k) ?_
  show Rch p e below T16 (mkF m 53 #[.val (.ref bb), .val (.int (1 : Int32)), .val (.int cc)] []) _
  exact Rch.ret0 X16 hx Bd.returns (hb hby djdk52m4_53) (by rw [e16]; exact ⟨rfl, N17, Kp20, f21⟩) (by decide) (by decide)

theorem djdk52m5_0 : decode jdk_52_method_5_code 0 = .ok (.getstatic 44, 3) := by decide +kernel
theorem djdk52m5_3 : decode jdk_52_method_5_code 3 = .ok (.ifCond .ne 25, 3) := by decide +kernel
theorem djdk52m5_6 : decode jdk_52_method_5_code 6 = .ok (.iload_n 1, 1) := by decide +kernel
theorem djdk52m5_7 : decode jdk_52_method_5_code 7 = .ok (.ifCond .lt 11, 3) := by decide +kernel
theorem djdk52m5_10 : decode jdk_52_method_5_code 10 = .ok (.iload_n 1, 1) := by decide +kernel
theorem djdk52m5_11 : decode jdk_52_method_5_code 11 = .ok (.aload_n 0, 1) := by decide +kernel
theorem djdk52m5_12 : decode jdk_52_method_5_code 12 = .ok (.invokestatic 48, 3) := by decide +kernel
theorem djdk52m5_15 : decode jdk_52_method_5_code 15 = .ok (.if_icmp .lt 13, 3) := by decide +kernel
theorem djdk52m5_18 : decode jdk_52_method_5_code 18 = .ok (.new 52, 3) := by decide +kernel
theorem djdk52m5_21 : decode jdk_52_method_5_code 21 = .ok (.dup, 1) := by decide +kernel
theorem djdk52m5_22 : decode jdk_52_method_5_code 22 = .ok (.ldc 54, 2) := by decide +kernel
theorem djdk52m5_24 : decode jdk_52_method_5_code 24 = .ok (.invokespecial 56, 3) := by decide +kernel
theorem djdk52m5_27 : decode jdk_52_method_5_code 27 = .ok (.athrow, 1) := by decide +kernel
theorem djdk52m5_28 : decode jdk_52_method_5_code 28 = .ok (.iload_n 1, 1) := by decide +kernel
theorem djdk52m5_29 : decode jdk_52_method_5_code 29 = .ok (.iconst 1, 1) := by decide +kernel
theorem djdk52m5_30 : decode jdk_52_method_5_code 30 = .ok (.ishl, 1) := by decide +kernel
theorem djdk52m5_31 : decode jdk_52_method_5_code 31 = .ok (.istore_n 1, 1) := by decide +kernel
theorem djdk52m5_32 : decode jdk_52_method_5_code 32 = .ok (.aload_n 0, 1) := by decide +kernel
theorem djdk52m5_33 : decode jdk_52_method_5_code 33 = .ok (.iload_n 1, 1) := by decide +kernel
theorem djdk52m5_34 : decode jdk_52_method_5_code 34 = .ok (.iinc 1 1, 3) := by decide +kernel
theorem djdk52m5_37 : decode jdk_52_method_5_code 37 = .ok (.baload, 1) := by decide +kernel
theorem djdk52m5_38 : decode jdk_52_method_5_code 38 = .ok (.sipush 255, 3) := by decide +kernel
theorem djdk52m5_41 : decode jdk_52_method_5_code 41 = .ok (.iand, 1) := by decide +kernel
theorem djdk52m5_42 : decode jdk_52_method_5_code 42 = .ok (.getstatic 59, 3) := by decide +kernel
theorem djdk52m5_45 : decode jdk_52_method_5_code 45 = .ok (.ishl, 1) := by decide +kernel
theorem djdk52m5_46 : decode jdk_52_method_5_code 46 = .ok (.aload_n 0, 1) := by decide +kernel
theorem djdk52m5_47 : decode jdk_52_method_5_code 47 = .ok (.iload_n 1, 1) := by decide +kernel
theorem djdk52m5_48 : decode jdk_52_method_5_code 48 = .ok (.baload, 1) := by decide +kernel
theorem djdk52m5_49 : decode jdk_52_method_5_code 49 = .ok (.sipush 255, 3) := by decide +kernel
theorem djdk52m5_52 : decode jdk_52_method_5_code 52 = .ok (.iand, 1) := by decide +kernel
theorem djdk52m5_53 : decode jdk_52_method_5_code 53 = .ok (.getstatic 63, 3) := by decide +kernel
theorem djdk52m5_56 : decode jdk_52_method_5_code 56 = .ok (.ishl, 1) := by decide +kernel
theorem djdk52m5_57 : decode jdk_52_method_5_code 57 = .ok (.ior, 1) := by decide +kernel
theorem djdk52m5_58 : decode jdk_52_method_5_code 58 = .ok (.i2c, 1) := by decide +kernel
theorem djdk52m5_59 : decode jdk_52_method_5_code 59 = .ok (.ireturn, 1) := by decide +kernel
theorem ef_rm_get_0 (m : MethodId) (bb : Addr) (kb : ClassId) (nn : Int32) (vs : List Value) (dd : Value) (x0 : Int32) (x1 : Int32)  : entryFrame m #[(.ref bb), (.int (0 : Int32))] 2 = mkF m 0 #[.val (.ref bb), .val (.int (0 : Int32))] [] := by  first | (simp [entryFrame, mkF, argsToLocals, Value.category, maxLocals]; done) | rfl
def Q_rm_get_0 (Z : State) (bb : Addr) (kb : ClassId) (nn : Int32) (vs : List Value) (dd : Value) (x0 : Int32) (x1 : Int32) (h0 : Heap) (n0 : Nat) (v : Option Value) (h : Heap) (L : List Loc) : Prop := (v = some (.int (own_gc x0 x1))) ∧ (Fr n0 L) ∧ (h = h0)
set_option maxRecDepth 65536 in
set_option maxHeartbeats 40000000 in
theorem rm_get_0 (l : Launch) (Z : State) (a0 : Array Value) (hw : ∀ d ∈ tables_1, d.before a0 Z = true) (ws : List Jvm.Cond) (bb : Addr) (kb : ClassId) (nn : Int32) (vs : List Value) (dd : Value) (x0 : Int32) (x1 : Int32) (h0 : Heap) (n0 : Nat) (Z0 : n0 ≤ h0.size) (SA : Sta Z Z.heap "java/lang/StringUTF16" "$assertionsDisabled" "Z" (.int 1)) (SH : Sta Z Z.heap "java/lang/StringUTF16" "HI_BYTE_SHIFT" "I" (.int 0)) (SL : Sta Z Z.heap "java/lang/StringUTF16" "LO_BYTE_SHIFT" "I" (.int 8)) (f3 : Arv Z h0 bb kb .byte nn vs dd) (hn : (1 : Int32) < nn) (hn0 : (0 : Int32) < nn) (hv0 : vs.getD 0 dd = .int x0) (hv1 : vs.getD 1 dd = .int x1) (Old0 : OldL Z n0 h0) :
    MetFree l (⟨"java/lang/StringUTF16", "getChar", "([BI)C"⟩ : MethodName) (head1 (Jvm.Cond.code (⟨"java/lang/StringUTF16", "getChar", "([BI)C"⟩ : MethodName) jdk_52_method_5_code 2 (some .char) :: ws) ({ frames := 0, cells := 0, slots := 0, locals := 0 } : Room)) (fun a U => a = #[(.ref bb), (.int (0 : Int32))] ∧ Z.Warmed39 U.vm ∧ U.heap = h0) (fun _ _ _ _ _ => True) (fun _ U o U' => ∃ v L, o = .returned v ∧ Q_rm_get_0 Z bb kb nn vs dd x0 x1 h0 n0 v U'.heap L ∧ FrameEnd U o U' L ({ frames := 0, cells := 0, slots := 0, locals := 0 } : Room).cells ({ frames := 0, cells := 0, slots := 0, locals := 0 } : Room).slots) := by
  refine MetFree.of_bodySF (plainFor_of_name pn_java_lang_StringUTF16) hisR ?_
  intro p e s m args below meth c s₁ Bd hml0 hP hK
  obtain ⟨rfl, hZ, hh⟩ := hP
  have hx := Bd.exec
  have hby := Bd.bytes
  have hml : c.maxLocals = 2 := hml0
  have hown : s.vm.findClass "java/lang/StringUTF16" = some m.cls := findClass_of_methodNamed Bd.named
  have hnm := (name_of_methodNamed Bd.named Bd.method).1
  have X0 : Stand p l e ({ frames := 0, cells := 0, slots := 0, locals := 0 } : Room) s m #[(.ref bb), (.int (0 : Int32))] below meth c s₁ [] 0 0 := Stand.of_body Bd
  have e0 : s₁.heap = h0 := by rw [← hh, Bd.state]; rfl
  have N0 := Fr.nil n0
  have K00 : Keep h0 h0 [] := Keep.refl _ _
  have hlk0 : meth.locks = false := by first | assumption | exact BodyLoose.notSynchronized (by assumption) | exact Body.notSynchronized (by assumption)
  show Rch p e below s₁ (entryFrame m #[(.ref bb), (.int (0 : Int32))] 2) (FinP s (Q_rm_get_0 Z bb kb nn vs dd x0 x1 h0 n0) 0 0)
  refine Rch.cast (ef_rm_get_0 m bb kb nn vs dd x0 x1) ?_
  show Rch p e below s₁ (mkF m 0 #[.val (.ref bb), .val (.int (0 : Int32))] []) _
  obtain ⟨T22, X22, e22, st22⟩ := getS X0 hx hZ hown (host := "") (hw _ (List.mem_of_getElem? (i := 77) rfl)) Via.refl e0 (SA.ext Old0.2) (g := (mkF m 0 #[.val (.ref bb), .val (.int (0 : Int32))] [])) rfl (hb hby djdk52m5_0)
  refine Rch.st (fun _ k => st22 _ k) ?_
  show Rch p e below T22 (mkF m 3 #[.val (.ref bb), .val (.int (0 : Int32))] [(.int (1 : Int32))]) _
  refine w_ifYes (pc' := 28) X22 hx hby djdk52m5_3 (XT.i0_ne_t (by decide)) (by decide) ?_
  refine w_iloadN (pc' := 29) X22 hx hby djdk52m5_28 rfl rfl ?_
  refine w_iconst (pc' := 30) (v := 1) X22 hx hby djdk52m5_29 rfl rfl ?_
  refine w_ishl (pc' := 31) X22 hx hby djdk52m5_30 rfl ?_
  have r23 : ((0 : Int32) <<< ((1 : Int32) &&& 31)) = (0 : Int32) := by decide
  rw [r23]
  show Rch p e below T22 (mkF m 31 #[.val (.ref bb), .val (.int (0 : Int32))] [(.int (0 : Int32))]) _
  refine w_istoreN (pc' := 32) (l' := #[.val (.ref bb), .val (.int (0 : Int32))]) X22 hx hby djdk52m5_31 rfl rfl ?_
  refine w_aloadN (pc' := 33) X22 hx hby djdk52m5_32 rfl rfl rfl ?_
  refine w_iloadN (pc' := 34) X22 hx hby djdk52m5_33 rfl rfl ?_
  refine w_iinc (pc' := 37) (w := (1 : Int32)) (l' := #[.val (.ref bb), .val (.int (1 : Int32))]) X22 hx hby djdk52m5_34 rfl (by decide) rfl rfl ?_
  refine Rch.st (fun _ k => own_ldB X22 hx hZ e22 f3 (j := (0 : Int32)) (⟨by decide, hn0⟩) (hv0) rfl rfl (hb hby djdk52m5_37) k) ?_
  show Rch p e below T22 (mkF m 38 #[.val (.ref bb), .val (.int (1 : Int32))] [(.int x0)]) _
  refine w_sipush (pc' := 41) (v := 255) X22 hx hby djdk52m5_38 rfl rfl ?_
  refine w_iand (pc' := 42) X22 hx hby djdk52m5_41 rfl ?_
  obtain ⟨T24, X24, e24, st24⟩ := getS X22 hx hZ hown (host := "") (hw _ (List.mem_of_getElem? (i := 78) rfl)) Via.refl e22 (SH.ext Old0.2) (g := (mkF m 42 #[.val (.ref bb), .val (.int (1 : Int32))] [(.int (x0 &&& (255 : Int32)))])) rfl (hb hby djdk52m5_42)
  refine Rch.st (fun _ k => st24 _ k) ?_
  show Rch p e below T24 (mkF m 45 #[.val (.ref bb), .val (.int (1 : Int32))] [(.int (0 : Int32)), (.int (x0 &&& (255 : Int32)))]) _
  refine w_ishl (pc' := 46) X24 hx hby djdk52m5_45 rfl ?_
  refine w_aloadN (pc' := 47) X24 hx hby djdk52m5_46 rfl rfl rfl ?_
  refine w_iloadN (pc' := 48) X24 hx hby djdk52m5_47 rfl rfl ?_
  refine Rch.st (fun _ k => own_ldB X24 hx hZ e24 f3 (j := (1 : Int32)) (⟨by decide, hn⟩) (hv1) rfl rfl (hb hby djdk52m5_48) k) ?_
  show Rch p e below T24 (mkF m 49 #[.val (.ref bb), .val (.int (1 : Int32))] [(.int x1), (.int ((x0 &&& (255 : Int32)) <<< ((0 : Int32) &&& 31)))]) _
  refine w_sipush (pc' := 52) (v := 255) X24 hx hby djdk52m5_49 rfl rfl ?_
  refine w_iand (pc' := 53) X24 hx hby djdk52m5_52 rfl ?_
  obtain ⟨T25, X25, e25, st25⟩ := getS X24 hx hZ hown (host := "") (hw _ (List.mem_of_getElem? (i := 79) rfl)) Via.refl e24 (SL.ext Old0.2) (g := (mkF m 53 #[.val (.ref bb), .val (.int (1 : Int32))] [(.int (x1 &&& (255 : Int32))), (.int ((x0 &&& (255 : Int32)) <<< ((0 : Int32) &&& 31)))])) rfl (hb hby djdk52m5_53)
  refine Rch.st (fun _ k => st25 _ k) ?_
  show Rch p e below T25 (mkF m 56 #[.val (.ref bb), .val (.int (1 : Int32))] [(.int (8 : Int32)), (.int (x1 &&& (255 : Int32))), (.int ((x0 &&& (255 : Int32)) <<< ((0 : Int32) &&& 31)))]) _
  refine w_ishl (pc' := 57) X25 hx hby djdk52m5_56 rfl ?_
  refine w_ior (pc' := 58) X25 hx hby djdk52m5_57 rfl ?_
  refine w_i2c (pc' := 59) X25 hx hby djdk52m5_58 rfl ?_
  exact Rch.retV X25 hx Bd.returns (XT.narrow_c _) (Or.inl ⟨rfl, by simp, _, rfl⟩) (hb hby djdk52m5_59) (by rw [e25]; exact ⟨rfl, N0, rfl⟩) (by decide) (by decide)

theorem ef_rm_put_1 (m : MethodId) (bb : Addr) (kb : ClassId) (nn : Int32) (vs : List Value) (dd : Value) (cc : Int32)  : entryFrame m #[(.ref bb), (.int (1 : Int32)), (.int cc)] 3 = mkF m 0 #[.val (.ref bb), .val (.int (1 : Int32)), .val (.int cc)] [] := by  first | (simp [entryFrame, mkF, argsToLocals, Value.category, maxLocals]; done) | rfl
def Q_rm_put_1 (Z : State) (bb : Addr) (kb : ClassId) (nn : Int32) (vs : List Value) (dd : Value) (cc : Int32) (h0 : Heap) (n0 : Nat) (v : Option Value) (h : Heap) (L : List Loc) : Prop := (v = none) ∧ (Fr n0 L) ∧ (Keep h0 h [bb]) ∧ (Arv Z h bb kb .byte nn ((vs.set 2 (.int (own_lo cc))).set 3 (.int (own_hi cc))) dd)
set_option maxRecDepth 65536 in
set_option maxHeartbeats 40000000 in
theorem rm_put_1 (l : Launch) (Z : State) (a0 : Array Value) (hw : ∀ d ∈ tables_1, d.before a0 Z = true) (ws : List Jvm.Cond) (bb : Addr) (kb : ClassId) (nn : Int32) (vs : List Value) (dd : Value) (cc : Int32) (h0 : Heap) (n0 : Nat) (Z0 : n0 ≤ h0.size) (SA : Sta Z Z.heap "java/lang/StringUTF16" "$assertionsDisabled" "Z" (.int 1)) (SH : Sta Z Z.heap "java/lang/StringUTF16" "HI_BYTE_SHIFT" "I" (.int 0)) (SL : Sta Z Z.heap "java/lang/StringUTF16" "LO_BYTE_SHIFT" "I" (.int 8)) (f3 : Arv Z h0 bb kb .byte nn vs dd) (gb : n0 ≤ bb) (hn : (3 : Int32) < nn) (hn0 : (2 : Int32) < nn) (hl : 3 < vs.length) (Old0 : OldL Z n0 h0) :
    MetFree l (⟨"java/lang/StringUTF16", "putChar", "([BII)V"⟩ : MethodName) (head1 (Jvm.Cond.code (⟨"java/lang/StringUTF16", "putChar", "([BII)V"⟩ : MethodName) jdk_52_method_4_code 3 none :: ws) ({ frames := 0, cells := 0, slots := 0, locals := 0 } : Room)) (fun a U => a = #[(.ref bb), (.int (1 : Int32)), (.int cc)] ∧ Z.Warmed39 U.vm ∧ U.heap = h0) (fun _ _ _ _ _ => True) (fun _ U o U' => ∃ v L, o = .returned v ∧ Q_rm_put_1 Z bb kb nn vs dd cc h0 n0 v U'.heap L ∧ FrameEnd U o U' L ({ frames := 0, cells := 0, slots := 0, locals := 0 } : Room).cells ({ frames := 0, cells := 0, slots := 0, locals := 0 } : Room).slots) := by
  refine MetFree.of_bodySF (plainFor_of_name pn_java_lang_StringUTF16) hisR ?_
  intro p e s m args below meth c s₁ Bd hml0 hP hK
  obtain ⟨rfl, hZ, hh⟩ := hP
  have hx := Bd.exec
  have hby := Bd.bytes
  have hml : c.maxLocals = 3 := hml0
  have hown : s.vm.findClass "java/lang/StringUTF16" = some m.cls := findClass_of_methodNamed Bd.named
  have hnm := (name_of_methodNamed Bd.named Bd.method).1
  have X0 : Stand p l e ({ frames := 0, cells := 0, slots := 0, locals := 0 } : Room) s m #[(.ref bb), (.int (1 : Int32)), (.int cc)] below meth c s₁ [] 0 0 := Stand.of_body Bd
  have e0 : s₁.heap = h0 := by rw [← hh, Bd.state]; rfl
  have N0 := Fr.nil n0
  have K00 : Keep h0 h0 [bb] := Keep.refl _ _
  have hlk0 : meth.locks = false := by first | assumption | exact BodyLoose.notSynchronized (by assumption) | exact Body.notSynchronized (by assumption)
  show Rch p e below s₁ (entryFrame m #[(.ref bb), (.int (1 : Int32)), (.int cc)] 3) (FinP s (Q_rm_put_1 Z bb kb nn vs dd cc h0 n0) 0 0)
  refine Rch.cast (ef_rm_put_1 m bb kb nn vs dd cc) ?_
  show Rch p e below s₁ (mkF m 0 #[.val (.ref bb), .val (.int (1 : Int32)), .val (.int cc)] []) _
  obtain ⟨T26, X26, e26, st26⟩ := getS X0 hx hZ hown (host := "") (hw _ (List.mem_of_getElem? (i := 77) rfl)) Via.refl e0 (SA.ext Old0.2) (g := (mkF m 0 #[.val (.ref bb), .val (.int (1 : Int32)), .val (.int cc)] [])) rfl (hb hby djdk52m4_0)
  refine Rch.st (fun _ k => st26 _ k) ?_
  show Rch p e below T26 (mkF m 3 #[.val (.ref bb), .val (.int (1 : Int32)), .val (.int cc)] [(.int (1 : Int32))]) _
  refine w_ifYes (pc' := 28) X26 hx hby djdk52m4_3 (XT.i0_ne_t (by decide)) (by decide) ?_
  refine w_iloadN (pc' := 29) X26 hx hby djdk52m4_28 rfl rfl ?_
  refine w_iconst (pc' := 30) (v := 1) X26 hx hby djdk52m4_29 rfl rfl ?_
  refine w_ishl (pc' := 31) X26 hx hby djdk52m4_30 rfl ?_
  have r27 : ((1 : Int32) <<< ((1 : Int32) &&& 31)) = (2 : Int32) := by decide
  rw [r27]
  show Rch p e below T26 (mkF m 31 #[.val (.ref bb), .val (.int (1 : Int32)), .val (.int cc)] [(.int (2 : Int32))]) _
  refine w_istoreN (pc' := 32) (l' := #[.val (.ref bb), .val (.int (2 : Int32)), .val (.int cc)]) X26 hx hby djdk52m4_31 rfl rfl ?_
  refine w_aloadN (pc' := 33) X26 hx hby djdk52m4_32 rfl rfl rfl ?_
  refine w_iloadN (pc' := 34) X26 hx hby djdk52m4_33 rfl rfl ?_
  refine w_iinc (pc' := 37) (w := (3 : Int32)) (l' := #[.val (.ref bb), .val (.int (3 : Int32)), .val (.int cc)]) X26 hx hby djdk52m4_34 rfl (by decide) rfl rfl ?_
  refine w_iloadN (pc' := 38) X26 hx hby djdk52m4_37 rfl rfl ?_
  obtain ⟨T28, X28, e28, st28⟩ := getS X26 hx hZ hown (host := "") (hw _ (List.mem_of_getElem? (i := 78) rfl)) Via.refl e26 (SH.ext Old0.2) (g := (mkF m 38 #[.val (.ref bb), .val (.int (3 : Int32)), .val (.int cc)] [(.int cc), (.int (2 : Int32)), (.ref bb)])) rfl (hb hby djdk52m4_38)
  refine Rch.st (fun _ k => st28 _ k) ?_
  show Rch p e below T28 (mkF m 41 #[.val (.ref bb), .val (.int (3 : Int32)), .val (.int cc)] [(.int (0 : Int32)), (.int cc), (.int (2 : Int32)), (.ref bb)]) _
  refine w_ishr (pc' := 42) X28 hx hby djdk52m4_41 rfl ?_
  refine w_i2b (pc' := 43) X28 hx hby djdk52m4_42 rfl ?_
  obtain ⟨T29, h29, X29, e29, W29, V29, st29⟩ := own_stB X28 hx hZ e28 f3 (j := (2 : Int32)) (⟨by decide, hn0⟩) 2 (by decide) (by omega) (g := (mkF m 43 #[.val (.ref bb), .val (.int (3 : Int32)), .val (.int cc)] [(.int ((cc >>> ((0 : Int32) &&& 31))).toInt8.toInt32), (.int (2 : Int32)), (.ref bb)])) rfl rfl (hb hby djdk52m4_43)
  have N30 := Fr.snoc X29 N0 gb
  have Old31 := Old0.wr W29 gb
  have Z32 := Nat.le_trans Z0 (Keep.of_wr W29).1
  have Kp33 : Keep h0 h29 [bb] := K00.wr W29 (Or.inl (List.mem_of_getElem? (i := 0) rfl))
  have f34 : Arv Z h29 bb kb .byte nn (vs.set 2 (.int (((cc >>> ((0 : Int32) &&& 31))).toInt8.toInt32).toInt8.toInt32)) dd := V29
  refine Rch.st (fun _ k => st29 _ k) ?_
  show Rch p e below T29 (mkF m 44 #[.val (.ref bb), .val (.int (3 : Int32)), .val (.int cc)] []) _
  refine w_aloadN (pc' := 45) X29 hx hby djdk52m4_44 rfl rfl rfl ?_
  refine w_iloadN (pc' := 46) X29 hx hby djdk52m4_45 rfl rfl ?_
  refine w_iloadN (pc' := 47) X29 hx hby djdk52m4_46 rfl rfl ?_
  obtain ⟨T35, X35, e35, st35⟩ := getS X29 hx hZ hown (host := "") (hw _ (List.mem_of_getElem? (i := 79) rfl)) Via.refl e29 (SL.ext Old31.2) (g := (mkF m 47 #[.val (.ref bb), .val (.int (3 : Int32)), .val (.int cc)] [(.int cc), (.int (3 : Int32)), (.ref bb)])) rfl (hb hby djdk52m4_47)
  refine Rch.st (fun _ k => st35 _ k) ?_
  show Rch p e below T35 (mkF m 50 #[.val (.ref bb), .val (.int (3 : Int32)), .val (.int cc)] [(.int (8 : Int32)), (.int cc), (.int (3 : Int32)), (.ref bb)]) _
  refine w_ishr (pc' := 51) X35 hx hby djdk52m4_50 rfl ?_
  refine w_i2b (pc' := 52) X35 hx hby djdk52m4_51 rfl ?_
  obtain ⟨T36, h36, X36, e36, W36, V36, st36⟩ := own_stB X35 hx hZ e35 f34 (j := (3 : Int32)) (⟨by decide, hn⟩) 3 (by decide) (by rw [List.length_set]; exact hl) (g := (mkF m 52 #[.val (.ref bb), .val (.int (3 : Int32)), .val (.int cc)] [(.int ((cc >>> ((8 : Int32) &&& 31))).toInt8.toInt32), (.int (3 : Int32)), (.ref bb)])) rfl rfl (hb hby djdk52m4_52)
  have N37 := Fr.snoc X36 N30 gb
  have Old38 := Old31.wr W36 gb
  have Z39 := Nat.le_trans Z32 (Keep.of_wr W36).1
  have Kp40 : Keep h0 h36 [bb] := Kp33.wr W36 (Or.inl (List.mem_of_getElem? (i := 0) rfl))
  have f41 : Arv Z h36 bb kb .byte nn ((vs.set 2 (.int (((cc >>> ((0 : Int32) &&& 31))).toInt8.toInt32).toInt8.toInt32)).set 3 (.int (((cc >>> ((8 : Int32) &&& 31))).toInt8.toInt32).toInt8.toInt32)) dd := V36
  refine Rch.st (fun _ k => st36 _ k) ?_
  show Rch p e below T36 (mkF m 53 #[.val (.ref bb), .val (.int (3 : Int32)), .val (.int cc)] []) _
  exact Rch.ret0 X36 hx Bd.returns (hb hby djdk52m4_53) (by rw [e36]; exact ⟨rfl, N37, Kp40, f41⟩) (by decide) (by decide)

theorem ef_rm_get_1 (m : MethodId) (bb : Addr) (kb : ClassId) (nn : Int32) (vs : List Value) (dd : Value) (x0 : Int32) (x1 : Int32)  : entryFrame m #[(.ref bb), (.int (1 : Int32))] 2 = mkF m 0 #[.val (.ref bb), .val (.int (1 : Int32))] [] := by  first | (simp [entryFrame, mkF, argsToLocals, Value.category, maxLocals]; done) | rfl
def Q_rm_get_1 (Z : State) (bb : Addr) (kb : ClassId) (nn : Int32) (vs : List Value) (dd : Value) (x0 : Int32) (x1 : Int32) (h0 : Heap) (n0 : Nat) (v : Option Value) (h : Heap) (L : List Loc) : Prop := (v = some (.int (own_gc x0 x1))) ∧ (Fr n0 L) ∧ (h = h0)
set_option maxRecDepth 65536 in
set_option maxHeartbeats 40000000 in
theorem rm_get_1 (l : Launch) (Z : State) (a0 : Array Value) (hw : ∀ d ∈ tables_1, d.before a0 Z = true) (ws : List Jvm.Cond) (bb : Addr) (kb : ClassId) (nn : Int32) (vs : List Value) (dd : Value) (x0 : Int32) (x1 : Int32) (h0 : Heap) (n0 : Nat) (Z0 : n0 ≤ h0.size) (SA : Sta Z Z.heap "java/lang/StringUTF16" "$assertionsDisabled" "Z" (.int 1)) (SH : Sta Z Z.heap "java/lang/StringUTF16" "HI_BYTE_SHIFT" "I" (.int 0)) (SL : Sta Z Z.heap "java/lang/StringUTF16" "LO_BYTE_SHIFT" "I" (.int 8)) (f3 : Arv Z h0 bb kb .byte nn vs dd) (hn : (3 : Int32) < nn) (hn0 : (2 : Int32) < nn) (hv0 : vs.getD 2 dd = .int x0) (hv1 : vs.getD 3 dd = .int x1) (Old0 : OldL Z n0 h0) :
    MetFree l (⟨"java/lang/StringUTF16", "getChar", "([BI)C"⟩ : MethodName) (head1 (Jvm.Cond.code (⟨"java/lang/StringUTF16", "getChar", "([BI)C"⟩ : MethodName) jdk_52_method_5_code 2 (some .char) :: ws) ({ frames := 0, cells := 0, slots := 0, locals := 0 } : Room)) (fun a U => a = #[(.ref bb), (.int (1 : Int32))] ∧ Z.Warmed39 U.vm ∧ U.heap = h0) (fun _ _ _ _ _ => True) (fun _ U o U' => ∃ v L, o = .returned v ∧ Q_rm_get_1 Z bb kb nn vs dd x0 x1 h0 n0 v U'.heap L ∧ FrameEnd U o U' L ({ frames := 0, cells := 0, slots := 0, locals := 0 } : Room).cells ({ frames := 0, cells := 0, slots := 0, locals := 0 } : Room).slots) := by
  refine MetFree.of_bodySF (plainFor_of_name pn_java_lang_StringUTF16) hisR ?_
  intro p e s m args below meth c s₁ Bd hml0 hP hK
  obtain ⟨rfl, hZ, hh⟩ := hP
  have hx := Bd.exec
  have hby := Bd.bytes
  have hml : c.maxLocals = 2 := hml0
  have hown : s.vm.findClass "java/lang/StringUTF16" = some m.cls := findClass_of_methodNamed Bd.named
  have hnm := (name_of_methodNamed Bd.named Bd.method).1
  have X0 : Stand p l e ({ frames := 0, cells := 0, slots := 0, locals := 0 } : Room) s m #[(.ref bb), (.int (1 : Int32))] below meth c s₁ [] 0 0 := Stand.of_body Bd
  have e0 : s₁.heap = h0 := by rw [← hh, Bd.state]; rfl
  have N0 := Fr.nil n0
  have K00 : Keep h0 h0 [] := Keep.refl _ _
  have hlk0 : meth.locks = false := by first | assumption | exact BodyLoose.notSynchronized (by assumption) | exact Body.notSynchronized (by assumption)
  show Rch p e below s₁ (entryFrame m #[(.ref bb), (.int (1 : Int32))] 2) (FinP s (Q_rm_get_1 Z bb kb nn vs dd x0 x1 h0 n0) 0 0)
  refine Rch.cast (ef_rm_get_1 m bb kb nn vs dd x0 x1) ?_
  show Rch p e below s₁ (mkF m 0 #[.val (.ref bb), .val (.int (1 : Int32))] []) _
  obtain ⟨T42, X42, e42, st42⟩ := getS X0 hx hZ hown (host := "") (hw _ (List.mem_of_getElem? (i := 77) rfl)) Via.refl e0 (SA.ext Old0.2) (g := (mkF m 0 #[.val (.ref bb), .val (.int (1 : Int32))] [])) rfl (hb hby djdk52m5_0)
  refine Rch.st (fun _ k => st42 _ k) ?_
  show Rch p e below T42 (mkF m 3 #[.val (.ref bb), .val (.int (1 : Int32))] [(.int (1 : Int32))]) _
  refine w_ifYes (pc' := 28) X42 hx hby djdk52m5_3 (XT.i0_ne_t (by decide)) (by decide) ?_
  refine w_iloadN (pc' := 29) X42 hx hby djdk52m5_28 rfl rfl ?_
  refine w_iconst (pc' := 30) (v := 1) X42 hx hby djdk52m5_29 rfl rfl ?_
  refine w_ishl (pc' := 31) X42 hx hby djdk52m5_30 rfl ?_
  have r43 : ((1 : Int32) <<< ((1 : Int32) &&& 31)) = (2 : Int32) := by decide
  rw [r43]
  show Rch p e below T42 (mkF m 31 #[.val (.ref bb), .val (.int (1 : Int32))] [(.int (2 : Int32))]) _
  refine w_istoreN (pc' := 32) (l' := #[.val (.ref bb), .val (.int (2 : Int32))]) X42 hx hby djdk52m5_31 rfl rfl ?_
  refine w_aloadN (pc' := 33) X42 hx hby djdk52m5_32 rfl rfl rfl ?_
  refine w_iloadN (pc' := 34) X42 hx hby djdk52m5_33 rfl rfl ?_
  refine w_iinc (pc' := 37) (w := (3 : Int32)) (l' := #[.val (.ref bb), .val (.int (3 : Int32))]) X42 hx hby djdk52m5_34 rfl (by decide) rfl rfl ?_
  refine Rch.st (fun _ k => own_ldB X42 hx hZ e42 f3 (j := (2 : Int32)) (⟨by decide, hn0⟩) (hv0) rfl rfl (hb hby djdk52m5_37) k) ?_
  show Rch p e below T42 (mkF m 38 #[.val (.ref bb), .val (.int (3 : Int32))] [(.int x0)]) _
  refine w_sipush (pc' := 41) (v := 255) X42 hx hby djdk52m5_38 rfl rfl ?_
  refine w_iand (pc' := 42) X42 hx hby djdk52m5_41 rfl ?_
  obtain ⟨T44, X44, e44, st44⟩ := getS X42 hx hZ hown (host := "") (hw _ (List.mem_of_getElem? (i := 78) rfl)) Via.refl e42 (SH.ext Old0.2) (g := (mkF m 42 #[.val (.ref bb), .val (.int (3 : Int32))] [(.int (x0 &&& (255 : Int32)))])) rfl (hb hby djdk52m5_42)
  refine Rch.st (fun _ k => st44 _ k) ?_
  show Rch p e below T44 (mkF m 45 #[.val (.ref bb), .val (.int (3 : Int32))] [(.int (0 : Int32)), (.int (x0 &&& (255 : Int32)))]) _
  refine w_ishl (pc' := 46) X44 hx hby djdk52m5_45 rfl ?_
  refine w_aloadN (pc' := 47) X44 hx hby djdk52m5_46 rfl rfl rfl ?_
  refine w_iloadN (pc' := 48) X44 hx hby djdk52m5_47 rfl rfl ?_
  refine Rch.st (fun _ k => own_ldB X44 hx hZ e44 f3 (j := (3 : Int32)) (⟨by decide, hn⟩) (hv1) rfl rfl (hb hby djdk52m5_48) k) ?_
  show Rch p e below T44 (mkF m 49 #[.val (.ref bb), .val (.int (3 : Int32))] [(.int x1), (.int ((x0 &&& (255 : Int32)) <<< ((0 : Int32) &&& 31)))]) _
  refine w_sipush (pc' := 52) (v := 255) X44 hx hby djdk52m5_49 rfl rfl ?_
  refine w_iand (pc' := 53) X44 hx hby djdk52m5_52 rfl ?_
  obtain ⟨T45, X45, e45, st45⟩ := getS X44 hx hZ hown (host := "") (hw _ (List.mem_of_getElem? (i := 79) rfl)) Via.refl e44 (SL.ext Old0.2) (g := (mkF m 53 #[.val (.ref bb), .val (.int (3 : Int32))] [(.int (x1 &&& (255 : Int32))), (.int ((x0 &&& (255 : Int32)) <<< ((0 : Int32) &&& 31)))])) rfl (hb hby djdk52m5_53)
  refine Rch.st (fun _ k => st45 _ k) ?_
  show Rch p e below T45 (mkF m 56 #[.val (.ref bb), .val (.int (3 : Int32))] [(.int (8 : Int32)), (.int (x1 &&& (255 : Int32))), (.int ((x0 &&& (255 : Int32)) <<< ((0 : Int32) &&& 31)))]) _
  refine w_ishl (pc' := 57) X45 hx hby djdk52m5_56 rfl ?_
  refine w_ior (pc' := 58) X45 hx hby djdk52m5_57 rfl ?_
  refine w_i2c (pc' := 59) X45 hx hby djdk52m5_58 rfl ?_
  exact Rch.retV X45 hx Bd.returns (XT.narrow_c _) (Or.inl ⟨rfl, by simp, _, rfl⟩) (hb hby djdk52m5_59) (by rw [e45]; exact ⟨rfl, N0, rfl⟩) (by decide) (by decide)

theorem ef_rm_put_2 (m : MethodId) (bb : Addr) (kb : ClassId) (nn : Int32) (vs : List Value) (dd : Value) (cc : Int32)  : entryFrame m #[(.ref bb), (.int (2 : Int32)), (.int cc)] 3 = mkF m 0 #[.val (.ref bb), .val (.int (2 : Int32)), .val (.int cc)] [] := by  first | (simp [entryFrame, mkF, argsToLocals, Value.category, maxLocals]; done) | rfl
def Q_rm_put_2 (Z : State) (bb : Addr) (kb : ClassId) (nn : Int32) (vs : List Value) (dd : Value) (cc : Int32) (h0 : Heap) (n0 : Nat) (v : Option Value) (h : Heap) (L : List Loc) : Prop := (v = none) ∧ (Fr n0 L) ∧ (Keep h0 h [bb]) ∧ (Arv Z h bb kb .byte nn ((vs.set 4 (.int (own_lo cc))).set 5 (.int (own_hi cc))) dd)
set_option maxRecDepth 65536 in
set_option maxHeartbeats 40000000 in
theorem rm_put_2 (l : Launch) (Z : State) (a0 : Array Value) (hw : ∀ d ∈ tables_1, d.before a0 Z = true) (ws : List Jvm.Cond) (bb : Addr) (kb : ClassId) (nn : Int32) (vs : List Value) (dd : Value) (cc : Int32) (h0 : Heap) (n0 : Nat) (Z0 : n0 ≤ h0.size) (SA : Sta Z Z.heap "java/lang/StringUTF16" "$assertionsDisabled" "Z" (.int 1)) (SH : Sta Z Z.heap "java/lang/StringUTF16" "HI_BYTE_SHIFT" "I" (.int 0)) (SL : Sta Z Z.heap "java/lang/StringUTF16" "LO_BYTE_SHIFT" "I" (.int 8)) (f3 : Arv Z h0 bb kb .byte nn vs dd) (gb : n0 ≤ bb) (hn : (5 : Int32) < nn) (hn0 : (4 : Int32) < nn) (hl : 5 < vs.length) (Old0 : OldL Z n0 h0) :
    MetFree l (⟨"java/lang/StringUTF16", "putChar", "([BII)V"⟩ : MethodName) (head1 (Jvm.Cond.code (⟨"java/lang/StringUTF16", "putChar", "([BII)V"⟩ : MethodName) jdk_52_method_4_code 3 none :: ws) ({ frames := 0, cells := 0, slots := 0, locals := 0 } : Room)) (fun a U => a = #[(.ref bb), (.int (2 : Int32)), (.int cc)] ∧ Z.Warmed39 U.vm ∧ U.heap = h0) (fun _ _ _ _ _ => True) (fun _ U o U' => ∃ v L, o = .returned v ∧ Q_rm_put_2 Z bb kb nn vs dd cc h0 n0 v U'.heap L ∧ FrameEnd U o U' L ({ frames := 0, cells := 0, slots := 0, locals := 0 } : Room).cells ({ frames := 0, cells := 0, slots := 0, locals := 0 } : Room).slots) := by
  refine MetFree.of_bodySF (plainFor_of_name pn_java_lang_StringUTF16) hisR ?_
  intro p e s m args below meth c s₁ Bd hml0 hP hK
  obtain ⟨rfl, hZ, hh⟩ := hP
  have hx := Bd.exec
  have hby := Bd.bytes
  have hml : c.maxLocals = 3 := hml0
  have hown : s.vm.findClass "java/lang/StringUTF16" = some m.cls := findClass_of_methodNamed Bd.named
  have hnm := (name_of_methodNamed Bd.named Bd.method).1
  have X0 : Stand p l e ({ frames := 0, cells := 0, slots := 0, locals := 0 } : Room) s m #[(.ref bb), (.int (2 : Int32)), (.int cc)] below meth c s₁ [] 0 0 := Stand.of_body Bd
  have e0 : s₁.heap = h0 := by rw [← hh, Bd.state]; rfl
  have N0 := Fr.nil n0
  have K00 : Keep h0 h0 [bb] := Keep.refl _ _
  have hlk0 : meth.locks = false := by first | assumption | exact BodyLoose.notSynchronized (by assumption) | exact Body.notSynchronized (by assumption)
  show Rch p e below s₁ (entryFrame m #[(.ref bb), (.int (2 : Int32)), (.int cc)] 3) (FinP s (Q_rm_put_2 Z bb kb nn vs dd cc h0 n0) 0 0)
  refine Rch.cast (ef_rm_put_2 m bb kb nn vs dd cc) ?_
  show Rch p e below s₁ (mkF m 0 #[.val (.ref bb), .val (.int (2 : Int32)), .val (.int cc)] []) _
  obtain ⟨T46, X46, e46, st46⟩ := getS X0 hx hZ hown (host := "") (hw _ (List.mem_of_getElem? (i := 77) rfl)) Via.refl e0 (SA.ext Old0.2) (g := (mkF m 0 #[.val (.ref bb), .val (.int (2 : Int32)), .val (.int cc)] [])) rfl (hb hby djdk52m4_0)
  refine Rch.st (fun _ k => st46 _ k) ?_
  show Rch p e below T46 (mkF m 3 #[.val (.ref bb), .val (.int (2 : Int32)), .val (.int cc)] [(.int (1 : Int32))]) _
  refine w_ifYes (pc' := 28) X46 hx hby djdk52m4_3 (XT.i0_ne_t (by decide)) (by decide) ?_
  refine w_iloadN (pc' := 29) X46 hx hby djdk52m4_28 rfl rfl ?_
  refine w_iconst (pc' := 30) (v := 1) X46 hx hby djdk52m4_29 rfl rfl ?_
  refine w_ishl (pc' := 31) X46 hx hby djdk52m4_30 rfl ?_
  have r47 : ((2 : Int32) <<< ((1 : Int32) &&& 31)) = (4 : Int32) := by decide
  rw [r47]
  show Rch p e below T46 (mkF m 31 #[.val (.ref bb), .val (.int (2 : Int32)), .val (.int cc)] [(.int (4 : Int32))]) _
  refine w_istoreN (pc' := 32) (l' := #[.val (.ref bb), .val (.int (4 : Int32)), .val (.int cc)]) X46 hx hby djdk52m4_31 rfl rfl ?_
  refine w_aloadN (pc' := 33) X46 hx hby djdk52m4_32 rfl rfl rfl ?_
  refine w_iloadN (pc' := 34) X46 hx hby djdk52m4_33 rfl rfl ?_
  refine w_iinc (pc' := 37) (w := (5 : Int32)) (l' := #[.val (.ref bb), .val (.int (5 : Int32)), .val (.int cc)]) X46 hx hby djdk52m4_34 rfl (by decide) rfl rfl ?_
  refine w_iloadN (pc' := 38) X46 hx hby djdk52m4_37 rfl rfl ?_
  obtain ⟨T48, X48, e48, st48⟩ := getS X46 hx hZ hown (host := "") (hw _ (List.mem_of_getElem? (i := 78) rfl)) Via.refl e46 (SH.ext Old0.2) (g := (mkF m 38 #[.val (.ref bb), .val (.int (5 : Int32)), .val (.int cc)] [(.int cc), (.int (4 : Int32)), (.ref bb)])) rfl (hb hby djdk52m4_38)
  refine Rch.st (fun _ k => st48 _ k) ?_
  show Rch p e below T48 (mkF m 41 #[.val (.ref bb), .val (.int (5 : Int32)), .val (.int cc)] [(.int (0 : Int32)), (.int cc), (.int (4 : Int32)), (.ref bb)]) _
  refine w_ishr (pc' := 42) X48 hx hby djdk52m4_41 rfl ?_
  refine w_i2b (pc' := 43) X48 hx hby djdk52m4_42 rfl ?_
  obtain ⟨T49, h49, X49, e49, W49, V49, st49⟩ := own_stB X48 hx hZ e48 f3 (j := (4 : Int32)) (⟨by decide, hn0⟩) 4 (by decide) (by omega) (g := (mkF m 43 #[.val (.ref bb), .val (.int (5 : Int32)), .val (.int cc)] [(.int ((cc >>> ((0 : Int32) &&& 31))).toInt8.toInt32), (.int (4 : Int32)), (.ref bb)])) rfl rfl (hb hby djdk52m4_43)
  have N50 := Fr.snoc X49 N0 gb
  have Old51 := Old0.wr W49 gb
  have Z52 := Nat.le_trans Z0 (Keep.of_wr W49).1
  have Kp53 : Keep h0 h49 [bb] := K00.wr W49 (Or.inl (List.mem_of_getElem? (i := 0) rfl))
  have f54 : Arv Z h49 bb kb .byte nn (vs.set 4 (.int (((cc >>> ((0 : Int32) &&& 31))).toInt8.toInt32).toInt8.toInt32)) dd := V49
  refine Rch.st (fun _ k => st49 _ k) ?_
  show Rch p e below T49 (mkF m 44 #[.val (.ref bb), .val (.int (5 : Int32)), .val (.int cc)] []) _
  refine w_aloadN (pc' := 45) X49 hx hby djdk52m4_44 rfl rfl rfl ?_
  refine w_iloadN (pc' := 46) X49 hx hby djdk52m4_45 rfl rfl ?_
  refine w_iloadN (pc' := 47) X49 hx hby djdk52m4_46 rfl rfl ?_
  obtain ⟨T55, X55, e55, st55⟩ := getS X49 hx hZ hown (host := "") (hw _ (List.mem_of_getElem? (i := 79) rfl)) Via.refl e49 (SL.ext Old51.2) (g := (mkF m 47 #[.val (.ref bb), .val (.int (5 : Int32)), .val (.int cc)] [(.int cc), (.int (5 : Int32)), (.ref bb)])) rfl (hb hby djdk52m4_47)
  refine Rch.st (fun _ k => st55 _ k) ?_
  show Rch p e below T55 (mkF m 50 #[.val (.ref bb), .val (.int (5 : Int32)), .val (.int cc)] [(.int (8 : Int32)), (.int cc), (.int (5 : Int32)), (.ref bb)]) _
  refine w_ishr (pc' := 51) X55 hx hby djdk52m4_50 rfl ?_
  refine w_i2b (pc' := 52) X55 hx hby djdk52m4_51 rfl ?_
  obtain ⟨T56, h56, X56, e56, W56, V56, st56⟩ := own_stB X55 hx hZ e55 f54 (j := (5 : Int32)) (⟨by decide, hn⟩) 5 (by decide) (by rw [List.length_set]; exact hl) (g := (mkF m 52 #[.val (.ref bb), .val (.int (5 : Int32)), .val (.int cc)] [(.int ((cc >>> ((8 : Int32) &&& 31))).toInt8.toInt32), (.int (5 : Int32)), (.ref bb)])) rfl rfl (hb hby djdk52m4_52)
  have N57 := Fr.snoc X56 N50 gb
  have Old58 := Old51.wr W56 gb
  have Z59 := Nat.le_trans Z52 (Keep.of_wr W56).1
  have Kp60 : Keep h0 h56 [bb] := Kp53.wr W56 (Or.inl (List.mem_of_getElem? (i := 0) rfl))
  have f61 : Arv Z h56 bb kb .byte nn ((vs.set 4 (.int (((cc >>> ((0 : Int32) &&& 31))).toInt8.toInt32).toInt8.toInt32)).set 5 (.int (((cc >>> ((8 : Int32) &&& 31))).toInt8.toInt32).toInt8.toInt32)) dd := V56
  refine Rch.st (fun _ k => st56 _ k) ?_
  show Rch p e below T56 (mkF m 53 #[.val (.ref bb), .val (.int (5 : Int32)), .val (.int cc)] []) _
  exact Rch.ret0 X56 hx Bd.returns (hb hby djdk52m4_53) (by rw [e56]; exact ⟨rfl, N57, Kp60, f61⟩) (by decide) (by decide)

theorem ef_rm_get_2 (m : MethodId) (bb : Addr) (kb : ClassId) (nn : Int32) (vs : List Value) (dd : Value) (x0 : Int32) (x1 : Int32)  : entryFrame m #[(.ref bb), (.int (2 : Int32))] 2 = mkF m 0 #[.val (.ref bb), .val (.int (2 : Int32))] [] := by  first | (simp [entryFrame, mkF, argsToLocals, Value.category, maxLocals]; done) | rfl
def Q_rm_get_2 (Z : State) (bb : Addr) (kb : ClassId) (nn : Int32) (vs : List Value) (dd : Value) (x0 : Int32) (x1 : Int32) (h0 : Heap) (n0 : Nat) (v : Option Value) (h : Heap) (L : List Loc) : Prop := (v = some (.int (own_gc x0 x1))) ∧ (Fr n0 L) ∧ (h = h0)
set_option maxRecDepth 65536 in
set_option maxHeartbeats 40000000 in
theorem rm_get_2 (l : Launch) (Z : State) (a0 : Array Value) (hw : ∀ d ∈ tables_1, d.before a0 Z = true) (ws : List Jvm.Cond) (bb : Addr) (kb : ClassId) (nn : Int32) (vs : List Value) (dd : Value) (x0 : Int32) (x1 : Int32) (h0 : Heap) (n0 : Nat) (Z0 : n0 ≤ h0.size) (SA : Sta Z Z.heap "java/lang/StringUTF16" "$assertionsDisabled" "Z" (.int 1)) (SH : Sta Z Z.heap "java/lang/StringUTF16" "HI_BYTE_SHIFT" "I" (.int 0)) (SL : Sta Z Z.heap "java/lang/StringUTF16" "LO_BYTE_SHIFT" "I" (.int 8)) (f3 : Arv Z h0 bb kb .byte nn vs dd) (hn : (5 : Int32) < nn) (hn0 : (4 : Int32) < nn) (hv0 : vs.getD 4 dd = .int x0) (hv1 : vs.getD 5 dd = .int x1) (Old0 : OldL Z n0 h0) :
    MetFree l (⟨"java/lang/StringUTF16", "getChar", "([BI)C"⟩ : MethodName) (head1 (Jvm.Cond.code (⟨"java/lang/StringUTF16", "getChar", "([BI)C"⟩ : MethodName) jdk_52_method_5_code 2 (some .char) :: ws) ({ frames := 0, cells := 0, slots := 0, locals := 0 } : Room)) (fun a U => a = #[(.ref bb), (.int (2 : Int32))] ∧ Z.Warmed39 U.vm ∧ U.heap = h0) (fun _ _ _ _ _ => True) (fun _ U o U' => ∃ v L, o = .returned v ∧ Q_rm_get_2 Z bb kb nn vs dd x0 x1 h0 n0 v U'.heap L ∧ FrameEnd U o U' L ({ frames := 0, cells := 0, slots := 0, locals := 0 } : Room).cells ({ frames := 0, cells := 0, slots := 0, locals := 0 } : Room).slots) := by
  refine MetFree.of_bodySF (plainFor_of_name pn_java_lang_StringUTF16) hisR ?_
  intro p e s m args below meth c s₁ Bd hml0 hP hK
  obtain ⟨rfl, hZ, hh⟩ := hP
  have hx := Bd.exec
  have hby := Bd.bytes
  have hml : c.maxLocals = 2 := hml0
  have hown : s.vm.findClass "java/lang/StringUTF16" = some m.cls := findClass_of_methodNamed Bd.named
  have hnm := (name_of_methodNamed Bd.named Bd.method).1
  have X0 : Stand p l e ({ frames := 0, cells := 0, slots := 0, locals := 0 } : Room) s m #[(.ref bb), (.int (2 : Int32))] below meth c s₁ [] 0 0 := Stand.of_body Bd
  have e0 : s₁.heap = h0 := by rw [← hh, Bd.state]; rfl
  have N0 := Fr.nil n0
  have K00 : Keep h0 h0 [] := Keep.refl _ _
  have hlk0 : meth.locks = false := by first | assumption | exact BodyLoose.notSynchronized (by assumption) | exact Body.notSynchronized (by assumption)
  show Rch p e below s₁ (entryFrame m #[(.ref bb), (.int (2 : Int32))] 2) (FinP s (Q_rm_get_2 Z bb kb nn vs dd x0 x1 h0 n0) 0 0)
  refine Rch.cast (ef_rm_get_2 m bb kb nn vs dd x0 x1) ?_
  show Rch p e below s₁ (mkF m 0 #[.val (.ref bb), .val (.int (2 : Int32))] []) _
  obtain ⟨T62, X62, e62, st62⟩ := getS X0 hx hZ hown (host := "") (hw _ (List.mem_of_getElem? (i := 77) rfl)) Via.refl e0 (SA.ext Old0.2) (g := (mkF m 0 #[.val (.ref bb), .val (.int (2 : Int32))] [])) rfl (hb hby djdk52m5_0)
  refine Rch.st (fun _ k => st62 _ k) ?_
  show Rch p e below T62 (mkF m 3 #[.val (.ref bb), .val (.int (2 : Int32))] [(.int (1 : Int32))]) _
  refine w_ifYes (pc' := 28) X62 hx hby djdk52m5_3 (XT.i0_ne_t (by decide)) (by decide) ?_
  refine w_iloadN (pc' := 29) X62 hx hby djdk52m5_28 rfl rfl ?_
  refine w_iconst (pc' := 30) (v := 1) X62 hx hby djdk52m5_29 rfl rfl ?_
  refine w_ishl (pc' := 31) X62 hx hby djdk52m5_30 rfl ?_
  have r63 : ((2 : Int32) <<< ((1 : Int32) &&& 31)) = (4 : Int32) := by decide
  rw [r63]
  show Rch p e below T62 (mkF m 31 #[.val (.ref bb), .val (.int (2 : Int32))] [(.int (4 : Int32))]) _
  refine w_istoreN (pc' := 32) (l' := #[.val (.ref bb), .val (.int (4 : Int32))]) X62 hx hby djdk52m5_31 rfl rfl ?_
  refine w_aloadN (pc' := 33) X62 hx hby djdk52m5_32 rfl rfl rfl ?_
  refine w_iloadN (pc' := 34) X62 hx hby djdk52m5_33 rfl rfl ?_
  refine w_iinc (pc' := 37) (w := (5 : Int32)) (l' := #[.val (.ref bb), .val (.int (5 : Int32))]) X62 hx hby djdk52m5_34 rfl (by decide) rfl rfl ?_
  refine Rch.st (fun _ k => own_ldB X62 hx hZ e62 f3 (j := (4 : Int32)) (⟨by decide, hn0⟩) (hv0) rfl rfl (hb hby djdk52m5_37) k) ?_
  show Rch p e below T62 (mkF m 38 #[.val (.ref bb), .val (.int (5 : Int32))] [(.int x0)]) _
  refine w_sipush (pc' := 41) (v := 255) X62 hx hby djdk52m5_38 rfl rfl ?_
  refine w_iand (pc' := 42) X62 hx hby djdk52m5_41 rfl ?_
  obtain ⟨T64, X64, e64, st64⟩ := getS X62 hx hZ hown (host := "") (hw _ (List.mem_of_getElem? (i := 78) rfl)) Via.refl e62 (SH.ext Old0.2) (g := (mkF m 42 #[.val (.ref bb), .val (.int (5 : Int32))] [(.int (x0 &&& (255 : Int32)))])) rfl (hb hby djdk52m5_42)
  refine Rch.st (fun _ k => st64 _ k) ?_
  show Rch p e below T64 (mkF m 45 #[.val (.ref bb), .val (.int (5 : Int32))] [(.int (0 : Int32)), (.int (x0 &&& (255 : Int32)))]) _
  refine w_ishl (pc' := 46) X64 hx hby djdk52m5_45 rfl ?_
  refine w_aloadN (pc' := 47) X64 hx hby djdk52m5_46 rfl rfl rfl ?_
  refine w_iloadN (pc' := 48) X64 hx hby djdk52m5_47 rfl rfl ?_
  refine Rch.st (fun _ k => own_ldB X64 hx hZ e64 f3 (j := (5 : Int32)) (⟨by decide, hn⟩) (hv1) rfl rfl (hb hby djdk52m5_48) k) ?_
  show Rch p e below T64 (mkF m 49 #[.val (.ref bb), .val (.int (5 : Int32))] [(.int x1), (.int ((x0 &&& (255 : Int32)) <<< ((0 : Int32) &&& 31)))]) _
  refine w_sipush (pc' := 52) (v := 255) X64 hx hby djdk52m5_49 rfl rfl ?_
  refine w_iand (pc' := 53) X64 hx hby djdk52m5_52 rfl ?_
  obtain ⟨T65, X65, e65, st65⟩ := getS X64 hx hZ hown (host := "") (hw _ (List.mem_of_getElem? (i := 79) rfl)) Via.refl e64 (SL.ext Old0.2) (g := (mkF m 53 #[.val (.ref bb), .val (.int (5 : Int32))] [(.int (x1 &&& (255 : Int32))), (.int ((x0 &&& (255 : Int32)) <<< ((0 : Int32) &&& 31)))])) rfl (hb hby djdk52m5_53)
  refine Rch.st (fun _ k => st65 _ k) ?_
  show Rch p e below T65 (mkF m 56 #[.val (.ref bb), .val (.int (5 : Int32))] [(.int (8 : Int32)), (.int (x1 &&& (255 : Int32))), (.int ((x0 &&& (255 : Int32)) <<< ((0 : Int32) &&& 31)))]) _
  refine w_ishl (pc' := 57) X65 hx hby djdk52m5_56 rfl ?_
  refine w_ior (pc' := 58) X65 hx hby djdk52m5_57 rfl ?_
  refine w_i2c (pc' := 59) X65 hx hby djdk52m5_58 rfl ?_
  exact Rch.retV X65 hx Bd.returns (XT.narrow_c _) (Or.inl ⟨rfl, by simp, _, rfl⟩) (hb hby djdk52m5_59) (by rw [e65]; exact ⟨rfl, N0, rfl⟩) (by decide) (by decide)

theorem djdk52m21_0 : decode jdk_52_method_21_code 0 = .ok (.iconst 0, 1) := by decide +kernel
theorem djdk52m21_1 : decode jdk_52_method_21_code 1 = .ok (.istore 5, 2) := by decide +kernel
theorem djdk52m21_3 : decode jdk_52_method_21_code 3 = .ok (.iload 5, 2) := by decide +kernel
theorem djdk52m21_5 : decode jdk_52_method_21_code 5 = .ok (.iload 4, 2) := by decide +kernel
theorem djdk52m21_7 : decode jdk_52_method_21_code 7 = .ok (.if_icmp .ge 37, 3) := by decide +kernel
theorem djdk52m21_10 : decode jdk_52_method_21_code 10 = .ok (.aload_n 0, 1) := by decide +kernel
theorem djdk52m21_11 : decode jdk_52_method_21_code 11 = .ok (.iload_n 1, 1) := by decide +kernel
theorem djdk52m21_12 : decode jdk_52_method_21_code 12 = .ok (.caload, 1) := by decide +kernel
theorem djdk52m21_13 : decode jdk_52_method_21_code 13 = .ok (.istore 6, 2) := by decide +kernel
theorem djdk52m21_15 : decode jdk_52_method_21_code 15 = .ok (.iload 6, 2) := by decide +kernel
theorem djdk52m21_17 : decode jdk_52_method_21_code 17 = .ok (.sipush 255, 3) := by decide +kernel
theorem djdk52m21_20 : decode jdk_52_method_21_code 20 = .ok (.if_icmp .le 6, 3) := by decide +kernel
theorem djdk52m21_23 : decode jdk_52_method_21_code 23 = .ok (.iload 5, 2) := by decide +kernel
theorem djdk52m21_25 : decode jdk_52_method_21_code 25 = .ok (.ireturn, 1) := by decide +kernel
theorem djdk52m21_26 : decode jdk_52_method_21_code 26 = .ok (.aload_n 2, 1) := by decide +kernel
theorem djdk52m21_27 : decode jdk_52_method_21_code 27 = .ok (.iload_n 3, 1) := by decide +kernel
theorem djdk52m21_28 : decode jdk_52_method_21_code 28 = .ok (.iload 6, 2) := by decide +kernel
theorem djdk52m21_30 : decode jdk_52_method_21_code 30 = .ok (.i2b, 1) := by decide +kernel
theorem djdk52m21_31 : decode jdk_52_method_21_code 31 = .ok (.bastore, 1) := by decide +kernel
theorem djdk52m21_32 : decode jdk_52_method_21_code 32 = .ok (.iinc 1 1, 3) := by decide +kernel
theorem djdk52m21_35 : decode jdk_52_method_21_code 35 = .ok (.iinc 3 1, 3) := by decide +kernel
theorem djdk52m21_38 : decode jdk_52_method_21_code 38 = .ok (.iinc 5 1, 3) := by decide +kernel
theorem djdk52m21_41 : decode jdk_52_method_21_code 41 = .ok (.goto (-38), 3) := by decide +kernel
theorem djdk52m21_44 : decode jdk_52_method_21_code 44 = .ok (.iload 4, 2) := by decide +kernel
theorem djdk52m21_46 : decode jdk_52_method_21_code 46 = .ok (.ireturn, 1) := by decide +kernel
theorem ef_rm_cmp5_1 (m : MethodId) (ca : Addr) (kc : ClassId) (bd : Addr) (kd : ClassId) (cc0 : Int32)  : entryFrame m #[(.ref ca), (.int (0 : Int32)), (.ref bd), (.int (0 : Int32)), (.int (1 : Int32))] 7 = mkF m 0 #[.val (.ref ca), .val (.int (0 : Int32)), .val (.ref bd), .val (.int (0 : Int32)), .val (.int (1 : Int32)), .unset, .unset] [] := by  first | (simp [entryFrame, mkF, argsToLocals, Value.category, maxLocals]; done) | rfl
def Q_rm_cmp5_1 (Z : State) (ca : Addr) (kc : ClassId) (bd : Addr) (kd : ClassId) (cc0 : Int32) (h0 : Heap) (n0 : Nat) (v : Option Value) (h : Heap) (L : List Loc) : Prop := (v = some (.int (1 : Int32))) ∧ (Fr n0 L) ∧ (Keep h0 h [bd]) ∧ (Arv Z h bd kd .byte (1 : Int32) [(.int (own_by cc0))] (.int (0 : Int32)))
set_option maxRecDepth 65536 in
set_option maxHeartbeats 40000000 in
theorem rm_cmp5_1 (l : Launch) (Z : State) (a0 : Array Value) (hw : ∀ d ∈ tables_1, d.before a0 Z = true) (ws : List Jvm.Cond) (ca : Addr) (kc : ClassId) (bd : Addr) (kd : ClassId) (cc0 : Int32) (h0 : Heap) (n0 : Nat) (Z0 : n0 ≤ h0.size) (f0 : Arv Z h0 ca kc .char (1 : Int32) [(.int cc0)] (.int (0 : Int32))) (f1 : Arv Z h0 bd kd .byte (1 : Int32) [(.int (0 : Int32))] (.int (0 : Int32))) (gd : n0 ≤ bd) (ncd : ca ≠ bd) (hg0 : ¬ (255 : Int32) < cc0) :
    MetFree l (⟨"java/lang/StringUTF16", "compress", "([CI[BII)I"⟩ : MethodName) (head1 (Jvm.Cond.code (⟨"java/lang/StringUTF16", "compress", "([CI[BII)I"⟩ : MethodName) jdk_52_method_21_code 7 (some .int) :: ws) ({ frames := 0, cells := 0, slots := 0, locals := 0 } : Room)) (fun a U => a = #[(.ref ca), (.int (0 : Int32)), (.ref bd), (.int (0 : Int32)), (.int (1 : Int32))] ∧ Z.Warmed39 U.vm ∧ U.heap = h0) (fun _ _ _ _ _ => True) (fun _ U o U' => ∃ v L, o = .returned v ∧ Q_rm_cmp5_1 Z ca kc bd kd cc0 h0 n0 v U'.heap L ∧ FrameEnd U o U' L ({ frames := 0, cells := 0, slots := 0, locals := 0 } : Room).cells ({ frames := 0, cells := 0, slots := 0, locals := 0 } : Room).slots) := by
  refine MetFree.of_bodySF (plainFor_of_name pn_java_lang_StringUTF16) hisR ?_
  intro p e s m args below meth c s₁ Bd hml0 hP hK
  obtain ⟨rfl, hZ, hh⟩ := hP
  have hx := Bd.exec
  have hby := Bd.bytes
  have hml : c.maxLocals = 7 := hml0
  have hown : s.vm.findClass "java/lang/StringUTF16" = some m.cls := findClass_of_methodNamed Bd.named
  have hnm := (name_of_methodNamed Bd.named Bd.method).1
  have X0 : Stand p l e ({ frames := 0, cells := 0, slots := 0, locals := 0 } : Room) s m #[(.ref ca), (.int (0 : Int32)), (.ref bd), (.int (0 : Int32)), (.int (1 : Int32))] below meth c s₁ [] 0 0 := Stand.of_body Bd
  have e0 : s₁.heap = h0 := by rw [← hh, Bd.state]; rfl
  have N0 := Fr.nil n0
  have K00 : Keep h0 h0 [bd] := Keep.refl _ _
  have hlk0 : meth.locks = false := by first | assumption | exact BodyLoose.notSynchronized (by assumption) | exact Body.notSynchronized (by assumption)
  show Rch p e below s₁ (entryFrame m #[(.ref ca), (.int (0 : Int32)), (.ref bd), (.int (0 : Int32)), (.int (1 : Int32))] 7) (FinP s (Q_rm_cmp5_1 Z ca kc bd kd cc0 h0 n0) 0 0)
  refine Rch.cast (ef_rm_cmp5_1 m ca kc bd kd cc0) ?_
  show Rch p e below s₁ (mkF m 0 #[.val (.ref ca), .val (.int (0 : Int32)), .val (.ref bd), .val (.int (0 : Int32)), .val (.int (1 : Int32)), .unset, .unset] []) _
  refine w_iconst (pc' := 1) (v := 0) X0 hx hby djdk52m21_0 rfl rfl ?_
  refine w_istore (pc' := 3) (l' := #[.val (.ref ca), .val (.int (0 : Int32)), .val (.ref bd), .val (.int (0 : Int32)), .val (.int (1 : Int32)), .val (.int (0 : Int32)), .unset]) X0 hx hby djdk52m21_1 rfl rfl ?_
  refine w_iload (pc' := 5) X0 hx hby djdk52m21_3 rfl rfl ?_
  refine w_iload (pc' := 7) X0 hx hby djdk52m21_5 rfl rfl ?_
  refine w_icmpNo (pc' := 10) X0 hx hby djdk52m21_7 (XT.ii_ge_f (by decide)) rfl ?_
  refine w_aloadN (pc' := 11) X0 hx hby djdk52m21_10 rfl rfl rfl ?_
  refine w_iloadN (pc' := 12) X0 hx hby djdk52m21_11 rfl rfl ?_
  refine Rch.st (fun _ k => own_ldC X0 hx hZ e0 f0 (j := (0 : Int32)) ⟨by decide, by decide⟩ (by rfl) rfl rfl (hb hby djdk52m21_12) k) ?_
  show Rch p e below s₁ (mkF m 13 #[.val (.ref ca), .val (.int (0 : Int32)), .val (.ref bd), .val (.int (0 : Int32)), .val (.int (1 : Int32)), .val (.int (0 : Int32)), .unset] [(.int cc0)]) _
  refine w_istore (pc' := 15) (l' := #[.val (.ref ca), .val (.int (0 : Int32)), .val (.ref bd), .val (.int (0 : Int32)), .val (.int (1 : Int32)), .val (.int (0 : Int32)), .val (.int cc0)]) X0 hx hby djdk52m21_13 rfl rfl ?_
  refine w_iload (pc' := 17) X0 hx hby djdk52m21_15 rfl rfl ?_
  refine w_sipush (pc' := 20) (v := 255) X0 hx hby djdk52m21_17 rfl rfl ?_
  refine w_icmpYes (pc' := 26) X0 hx hby djdk52m21_20 (XT.ii_le_t (hg0)) (by decide) ?_
  refine w_aloadN (pc' := 27) X0 hx hby djdk52m21_26 rfl rfl rfl ?_
  refine w_iloadN (pc' := 28) X0 hx hby djdk52m21_27 rfl rfl ?_
  refine w_iload (pc' := 30) X0 hx hby djdk52m21_28 rfl rfl ?_
  refine w_i2b (pc' := 31) X0 hx hby djdk52m21_30 rfl ?_
  obtain ⟨T66, h66, X66, e66, W66, V66, st66⟩ := own_stB X0 hx hZ e0 f1 (j := (0 : Int32)) ⟨by decide, by decide⟩ 0 (by decide) (by decide : 0 < 1) (g := (mkF m 31 #[.val (.ref ca), .val (.int (0 : Int32)), .val (.ref bd), .val (.int (0 : Int32)), .val (.int (1 : Int32)), .val (.int (0 : Int32)), .val (.int cc0)] [(.int (cc0).toInt8.toInt32), (.int (0 : Int32)), (.ref bd)])) rfl rfl (hb hby djdk52m21_31)
  have N67 := Fr.snoc X66 N0 gd
  have f68 : Arv Z h66 ca kc .char (1 : Int32) [(.int cc0)] (.int (0 : Int32)) := f0.other W66 ncd
  have Z69 := Nat.le_trans Z0 (Keep.of_wr W66).1
  have Kp70 : Keep h0 h66 [bd] := K00.wr W66 (Or.inl (List.mem_of_getElem? (i := 0) rfl))
  have f71 : Arv Z h66 bd kd .byte (1 : Int32) [(.int ((cc0).toInt8.toInt32).toInt8.toInt32)] (.int (0 : Int32)) := V66
  refine Rch.st (fun _ k => st66 _ k) ?_
  show Rch p e below T66 (mkF m 32 #[.val (.ref ca), .val (.int (0 : Int32)), .val (.ref bd), .val (.int (0 : Int32)), .val (.int (1 : Int32)), .val (.int (0 : Int32)), .val (.int cc0)] []) _
  refine w_iinc (pc' := 35) (w := (1 : Int32)) (l' := #[.val (.ref ca), .val (.int (1 : Int32)), .val (.ref bd), .val (.int (0 : Int32)), .val (.int (1 : Int32)), .val (.int (0 : Int32)), .val (.int cc0)]) X66 hx hby djdk52m21_32 rfl (by decide) rfl rfl ?_
  refine w_iinc (pc' := 38) (w := (1 : Int32)) (l' := #[.val (.ref ca), .val (.int (1 : Int32)), .val (.ref bd), .val (.int (1 : Int32)), .val (.int (1 : Int32)), .val (.int (0 : Int32)), .val (.int cc0)]) X66 hx hby djdk52m21_35 rfl (by decide) rfl rfl ?_
  refine w_iinc (pc' := 41) (w := (1 : Int32)) (l' := #[.val (.ref ca), .val (.int (1 : Int32)), .val (.ref bd), .val (.int (1 : Int32)), .val (.int (1 : Int32)), .val (.int (1 : Int32)), .val (.int cc0)]) X66 hx hby djdk52m21_38 rfl (by decide) rfl rfl ?_
  refine w_goto (pc' := 3) X66 hx hby djdk52m21_41 (by decide) ?_
  refine w_iload (pc' := 5) X66 hx hby djdk52m21_3 rfl rfl ?_
  refine w_iload (pc' := 7) X66 hx hby djdk52m21_5 rfl rfl ?_
  refine w_icmpYes (pc' := 44) X66 hx hby djdk52m21_7 (XT.ii_ge_t (by decide)) (by decide) ?_
  refine w_iload (pc' := 46) X66 hx hby djdk52m21_44 rfl rfl ?_
  exact Rch.retV X66 hx Bd.returns rfl (Or.inl ⟨rfl, by simp, _, rfl⟩) (hb hby djdk52m21_46) (by rw [e66]; exact ⟨rfl, N67, Kp70, f71⟩) (by decide) (by decide)

theorem djdk52m16_0 : decode jdk_52_method_16_code 0 = .ok (.iload_n 2, 1) := by decide +kernel
theorem djdk52m16_1 : decode jdk_52_method_16_code 1 = .ok (.newarray .byte, 2) := by decide +kernel
theorem djdk52m16_3 : decode jdk_52_method_16_code 3 = .ok (.astore_n 3, 1) := by decide +kernel
theorem djdk52m16_4 : decode jdk_52_method_16_code 4 = .ok (.aload_n 0, 1) := by decide +kernel
theorem djdk52m16_5 : decode jdk_52_method_16_code 5 = .ok (.iload_n 1, 1) := by decide +kernel
theorem djdk52m16_6 : decode jdk_52_method_16_code 6 = .ok (.aload_n 3, 1) := by decide +kernel
theorem djdk52m16_7 : decode jdk_52_method_16_code 7 = .ok (.iconst 0, 1) := by decide +kernel
theorem djdk52m16_8 : decode jdk_52_method_16_code 8 = .ok (.iload_n 2, 1) := by decide +kernel
theorem djdk52m16_9 : decode jdk_52_method_16_code 9 = .ok (.invokestatic 115, 3) := by decide +kernel
theorem djdk52m16_12 : decode jdk_52_method_16_code 12 = .ok (.istore 4, 2) := by decide +kernel
theorem djdk52m16_14 : decode jdk_52_method_16_code 14 = .ok (.iload 4, 2) := by decide +kernel
theorem djdk52m16_16 : decode jdk_52_method_16_code 16 = .ok (.iload_n 2, 1) := by decide +kernel
theorem djdk52m16_17 : decode jdk_52_method_16_code 17 = .ok (.if_icmp .eq 40, 3) := by decide +kernel
theorem djdk52m16_20 : decode jdk_52_method_16_code 20 = .ok (.aload_n 0, 1) := by decide +kernel
theorem djdk52m16_21 : decode jdk_52_method_16_code 21 = .ok (.iload_n 1, 1) := by decide +kernel
theorem djdk52m16_22 : decode jdk_52_method_16_code 22 = .ok (.iload_n 2, 1) := by decide +kernel
theorem djdk52m16_23 : decode jdk_52_method_16_code 23 = .ok (.invokestatic 119, 3) := by decide +kernel
theorem djdk52m16_26 : decode jdk_52_method_16_code 26 = .ok (.astore 5, 2) := by decide +kernel
theorem djdk52m16_28 : decode jdk_52_method_16_code 28 = .ok (.aload 5, 2) := by decide +kernel
theorem djdk52m16_30 : decode jdk_52_method_16_code 30 = .ok (.iload 4, 2) := by decide +kernel
theorem djdk52m16_32 : decode jdk_52_method_16_code 32 = .ok (.invokestatic 71, 3) := by decide +kernel
theorem djdk52m16_35 : decode jdk_52_method_16_code 35 = .ok (.sipush 255, 3) := by decide +kernel
theorem djdk52m16_38 : decode jdk_52_method_16_code 38 = .ok (.if_icmp .gt 16, 3) := by decide +kernel
theorem djdk52m16_41 : decode jdk_52_method_16_code 41 = .ok (.aload 5, 2) := by decide +kernel
theorem djdk52m16_43 : decode jdk_52_method_16_code 43 = .ok (.iconst 0, 1) := by decide +kernel
theorem djdk52m16_44 : decode jdk_52_method_16_code 44 = .ok (.aload_n 3, 1) := by decide +kernel
theorem djdk52m16_45 : decode jdk_52_method_16_code 45 = .ok (.iconst 0, 1) := by decide +kernel
theorem djdk52m16_46 : decode jdk_52_method_16_code 46 = .ok (.iload_n 2, 1) := by decide +kernel
theorem djdk52m16_47 : decode jdk_52_method_16_code 47 = .ok (.invokestatic 123, 3) := by decide +kernel
theorem djdk52m16_50 : decode jdk_52_method_16_code 50 = .ok (.iload_n 2, 1) := by decide +kernel
theorem djdk52m16_51 : decode jdk_52_method_16_code 51 = .ok (.if_icmp .eq 6, 3) := by decide +kernel
theorem djdk52m16_54 : decode jdk_52_method_16_code 54 = .ok (.aload 5, 2) := by decide +kernel
theorem djdk52m16_56 : decode jdk_52_method_16_code 56 = .ok (.areturn, 1) := by decide +kernel
theorem djdk52m16_57 : decode jdk_52_method_16_code 57 = .ok (.aload_n 3, 1) := by decide +kernel
theorem djdk52m16_58 : decode jdk_52_method_16_code 58 = .ok (.areturn, 1) := by decide +kernel
theorem ef_rm_cmp3_1 (m : MethodId) (ca : Addr) (kc : ClassId) (cc0 : Int32)  : entryFrame m #[(.ref ca), (.int (0 : Int32)), (.int (1 : Int32))] 6 = mkF m 0 #[.val (.ref ca), .val (.int (0 : Int32)), .val (.int (1 : Int32)), .unset, .unset, .unset] [] := by  first | (simp [entryFrame, mkF, argsToLocals, Value.category, maxLocals]; done) | rfl
def Q_rm_cmp3_1 (Z : State) (ca : Addr) (kc : ClassId) (cc0 : Int32) (h0 : Heap) (n0 : Nat) (v : Option Value) (h : Heap) (L : List Loc) : Prop := ∃ (t : Addr) (kt : ClassId), (v = some (.ref t)) ∧ (Fr n0 L) ∧ (Keep h0 h []) ∧ (h0.size ≤ t) ∧ (Arv Z h t kt .byte (1 : Int32) [(.int (own_by cc0))] (.int (0 : Int32)))
theorem pd___CI_BII_I : parseMethodDescriptor "([CI[BII)I" = some ⟨[(.array .char), .int, (.array .byte), .int, .int], (some .int)⟩ := by decide +kernel
set_option maxRecDepth 65536 in
set_option maxHeartbeats 40000000 in
theorem rm_cmp3_1 (l : Launch) (Z : State) (a0 : Array Value) (hw : ∀ d ∈ tables_1, d.before a0 Z = true) (ws : List Jvm.Cond) (ca : Addr) (kc : ClassId) (cc0 : Int32) (h0 : Heap) (n0 : Nat) (Z0 : n0 ≤ h0.size) (f0 : Arv Z h0 ca kc .char (1 : Int32) [(.int cc0)] (.int (0 : Int32))) (hg0 : ¬ (255 : Int32) < cc0) :
    MetFree l (⟨"java/lang/StringUTF16", "compress", "([CII)[B"⟩ : MethodName) (head1 (Jvm.Cond.code (⟨"java/lang/StringUTF16", "compress", "([CII)[B"⟩ : MethodName) jdk_52_method_16_code 6 (some (.array .byte)) :: ws) ({ frames := 1, cells := 1, slots := 1, locals := 18 } : Room)) (fun a U => a = #[(.ref ca), (.int (0 : Int32)), (.int (1 : Int32))] ∧ Z.Warmed39 U.vm ∧ U.heap = h0) (fun _ _ _ _ _ => True) (fun _ U o U' => ∃ v L, o = .returned v ∧ Q_rm_cmp3_1 Z ca kc cc0 h0 n0 v U'.heap L ∧ FrameEnd U o U' L ({ frames := 1, cells := 1, slots := 1, locals := 18 } : Room).cells ({ frames := 1, cells := 1, slots := 1, locals := 18 } : Room).slots) := by
  refine MetFree.of_bodySF (plainFor_of_name pn_java_lang_StringUTF16) hisR ?_
  intro p e s m args below meth c s₁ Bd hml0 hP hK
  obtain ⟨rfl, hZ, hh⟩ := hP
  have hx := Bd.exec
  have hby := Bd.bytes
  have hml : c.maxLocals = 6 := hml0
  have hown : s.vm.findClass "java/lang/StringUTF16" = some m.cls := findClass_of_methodNamed Bd.named
  have hnm := (name_of_methodNamed Bd.named Bd.method).1
  have X0 : Stand p l e ({ frames := 1, cells := 1, slots := 1, locals := 18 } : Room) s m #[(.ref ca), (.int (0 : Int32)), (.int (1 : Int32))] below meth c s₁ [] 0 0 := Stand.of_body Bd
  have e0 : s₁.heap = h0 := by rw [← hh, Bd.state]; rfl
  have N0 := Fr.nil n0
  have K00 : Keep h0 h0 [] := Keep.refl _ _
  have hlk0 : meth.locks = false := by first | assumption | exact BodyLoose.notSynchronized (by assumption) | exact Body.notSynchronized (by assumption)
  show Rch p e below s₁ (entryFrame m #[(.ref ca), (.int (0 : Int32)), (.int (1 : Int32))] 6) (FinP s (Q_rm_cmp3_1 Z ca kc cc0 h0 n0) 1 1)
  refine Rch.cast (ef_rm_cmp3_1 m ca kc cc0) ?_
  show Rch p e below s₁ (mkF m 0 #[.val (.ref ca), .val (.int (0 : Int32)), .val (.int (1 : Int32)), .unset, .unset, .unset] []) _
  refine w_iloadN (pc' := 1) X0 hx hby djdk52m16_0 rfl rfl ?_
  obtain ⟨T72, h72, kc72, X72, e72, E72, A72, st72⟩ := newP X0 hx hZ (hw _ (List.mem_of_getElem? (i := 16) rfl)) e0 (g := (mkF m 1 #[.val (.ref ca), .val (.int (0 : Int32)), .val (.int (1 : Int32)), .unset, .unset, .unset] [(.int (1 : Int32))])) rfl (hb hby djdk52m16_1) rfl (by decide : ¬ ((1 : Int32) < (0 : Int32))) (cap := 1) (by decide : (1 : Int32).toNatClampNeg ≤ 1) (by decide) (by decide) (by decide)
  obtain ⟨a72, g72⟩ : ∃ z, z = h0.size := ⟨_, rfl⟩
  rw [← g72] at A72 st72
  have ne73 : ca ≠ a72 := by rw [g72]; exact Nat.ne_of_lt f0.lt
  have ge74 : n0 ≤ a72 := Nat.le_trans Z0 (Nat.le_of_eq g72.symm)
  have f76 : Arv Z h72 ca kc .char (1 : Int32) [(.int cc0)] (.int (0 : Int32)) := f0.ext E72
  have Z77 := Nat.le_trans Z0 E72.1
  have Kp78 : Keep h0 h72 [] := K00.ext E72
  have f79 : Arv Z h72 a72 kc72 .byte (1 : Int32) [(.int (0 : Int32))] (.int (0 : Int32)) := (Arv.new A72 (by decide : ¬ ((1 : Int32) < (0 : Int32)))).pad (pad_rep [] (.int (0 : Int32)) 1)
  refine Rch.st (fun _ k => st72 _ k) ?_
  show Rch p e below T72 (mkF m 3 #[.val (.ref ca), .val (.int (0 : Int32)), .val (.int (1 : Int32)), .unset, .unset, .unset] [(.ref a72)]) _
  refine w_astoreN (pc' := 4) (l' := #[.val (.ref ca), .val (.int (0 : Int32)), .val (.int (1 : Int32)), .val (.ref a72), .unset, .unset]) X72 hx hby djdk52m16_3 rfl rfl rfl ?_
  refine w_aloadN (pc' := 5) X72 hx hby djdk52m16_4 rfl rfl rfl ?_
  refine w_iloadN (pc' := 6) X72 hx hby djdk52m16_5 rfl rfl ?_
  refine w_aloadN (pc' := 7) X72 hx hby djdk52m16_6 rfl rfl rfl ?_
  refine w_iconst (pc' := 8) (v := 0) X72 hx hby djdk52m16_7 rfl rfl ?_
  refine w_iloadN (pc' := 9) X72 hx hby djdk52m16_8 rfl rfl ?_
  obtain ⟨_, _, ⟨T80, L80, k80, n80⟩, -, X80, ⟨Lc80, hQ80, l80, y80, z80⟩, st80⟩ := Jvm.LawKit.callS X72 hx (y := (⟨"java/lang/StringUTF16", "compress", "([CI[BII)I"⟩ : MethodName)) hown (mvT hZ (hw _ (List.mem_of_getElem? (i := 54) rfl))) (mvT hZ (hw _ (List.mem_of_getElem? (i := 55) rfl))) (mvT hZ (hw _ (List.mem_of_getElem? (i := 52) rfl))) (mvT hZ (hw _ (List.mem_of_getElem? (i := 56) rfl))) (by decide) (backOf (W := 0) (rm_cmp5_1 l Z a0 hw [] ca kc a72 kc72 cc0 h72 n0 Z77 f76 f79 (ge74) (ne73) (hg0)) hZ (hw _ (List.mem_of_getElem? (i := 56) rfl)) (hw _ (List.mem_of_getElem? (i := 52) rfl)) (by decide) (by decide)) (g := (mkF m 9 #[.val (.ref ca), .val (.int (0 : Int32)), .val (.int (1 : Int32)), .val (.ref a72), .unset, .unset] [(.int (1 : Int32)), (.int (0 : Int32)), (.ref a72), (.int (0 : Int32)), (.ref ca)])) rfl (by rw [hml]; rfl) (argsL := [(.ref ca), (.int (0 : Int32)), (.ref a72), (.int (0 : Int32)), (.int (1 : Int32))]) (rest := []) (lenOf pd___CI_BII_I rfl) rfl (by show 2 * 0 + _ ≤ _; exact Nat.le_of_eq rfl) (hb hby djdk52m16_9) (fun _ _ => ⟨rfl, e72, (by decide : 1 + 0 ≤ _), (by decide : 1 + 0 ≤ _)⟩)
  dsimp only [Pt.U, Pt.locs, Pt.cells, Pt.slots] at X80 l80 y80 z80 st80 hQ80
  subst l80 y80 z80
  obtain ⟨rfl, NQ80, K80, fq80_0⟩ := hQ80
  have N81 := Fr.app N0 NQ80
  have f82 : Arv Z T80.heap ca kc .char (1 : Int32) [(.int cc0)] (.int (0 : Int32)) := f76.keep K80 (ninS ne73 nin0)
  have Kp83 : Keep h0 T80.heap [] := Kp78.trans K80 (allS (Or.inr (Nat.le_trans K00.1 (Nat.le_of_eq g72.symm))) all0)
  have Z84 := Nat.le_trans Z77 K80.1
  refine Rch.st (fun _ k => st80 _ k) ?_
  show Rch p e below T80 (mkF m 12 #[.val (.ref ca), .val (.int (0 : Int32)), .val (.int (1 : Int32)), .val (.ref a72), .unset, .unset] [(.int (1 : Int32))]) _
  refine w_istore (pc' := 14) (l' := #[.val (.ref ca), .val (.int (0 : Int32)), .val (.int (1 : Int32)), .val (.ref a72), .val (.int (1 : Int32)), .unset]) X80 hx hby djdk52m16_12 rfl rfl ?_
  refine w_iload (pc' := 16) X80 hx hby djdk52m16_14 rfl rfl ?_
  refine w_iloadN (pc' := 17) X80 hx hby djdk52m16_16 rfl rfl ?_
  refine w_icmpYes (pc' := 57) X80 hx hby djdk52m16_17 (XT.ii_eq_t (rfl)) (by decide) ?_
  refine w_aloadN (pc' := 58) X80 hx hby djdk52m16_57 rfl rfl rfl ?_
  exact Rch.retV X80 hx Bd.returns rfl (Or.inr (Or.inr (Or.inr (Or.inr ⟨rfl, rfl, rfl⟩)))) (hb hby djdk52m16_58) (by rw [(rfl : T80.heap = T80.heap)]; exact ⟨a72, kc72, rfl, N81, Kp83, (Nat.le_trans K00.1 (Nat.le_of_eq g72.symm)), fq80_0⟩) (by decide) (by decide)

theorem djdk42m149_0 : decode jdk_42_method_149_code 0 = .ok (.aload_n 0, 1) := by decide +kernel
theorem djdk42m149_1 : decode jdk_42_method_149_code 1 = .ok (.invokespecial 1, 3) := by decide +kernel
theorem djdk42m149_4 : decode jdk_42_method_149_code 4 = .ok (.iload_n 3, 1) := by decide +kernel
theorem djdk42m149_5 : decode jdk_42_method_149_code 5 = .ok (.ifCond .ne 22, 3) := by decide +kernel
theorem djdk42m149_8 : decode jdk_42_method_149_code 8 = .ok (.aload_n 0, 1) := by decide +kernel
theorem djdk42m149_9 : decode jdk_42_method_149_code 9 = .ok (.ldc 7, 2) := by decide +kernel
theorem djdk42m149_11 : decode jdk_42_method_149_code 11 = .ok (.getfield 9, 3) := by decide +kernel
theorem djdk42m149_14 : decode jdk_42_method_149_code 14 = .ok (.putfield 9, 3) := by decide +kernel
theorem djdk42m149_17 : decode jdk_42_method_149_code 17 = .ok (.aload_n 0, 1) := by decide +kernel
theorem djdk42m149_18 : decode jdk_42_method_149_code 18 = .ok (.ldc 7, 2) := by decide +kernel
theorem djdk42m149_20 : decode jdk_42_method_149_code 20 = .ok (.getfield 15, 3) := by decide +kernel
theorem djdk42m149_23 : decode jdk_42_method_149_code 23 = .ok (.putfield 15, 3) := by decide +kernel
theorem djdk42m149_26 : decode jdk_42_method_149_code 26 = .ok (.return_, 1) := by decide +kernel
theorem djdk42m149_27 : decode jdk_42_method_149_code 27 = .ok (.getstatic 38, 3) := by decide +kernel
theorem djdk42m149_30 : decode jdk_42_method_149_code 30 = .ok (.ifCond .eq 28, 3) := by decide +kernel
theorem djdk42m149_33 : decode jdk_42_method_149_code 33 = .ok (.aload_n 1, 1) := by decide +kernel
theorem djdk42m149_34 : decode jdk_42_method_149_code 34 = .ok (.iload_n 2, 1) := by decide +kernel
theorem djdk42m149_35 : decode jdk_42_method_149_code 35 = .ok (.iload_n 3, 1) := by decide +kernel
theorem djdk42m149_36 : decode jdk_42_method_149_code 36 = .ok (.invokestatic 177, 3) := by decide +kernel
theorem djdk42m149_39 : decode jdk_42_method_149_code 39 = .ok (.astore 5, 2) := by decide +kernel
theorem djdk42m149_41 : decode jdk_42_method_149_code 41 = .ok (.aload_n 0, 1) := by decide +kernel
theorem djdk42m149_42 : decode jdk_42_method_149_code 42 = .ok (.aload 5, 2) := by decide +kernel
theorem djdk42m149_44 : decode jdk_42_method_149_code 44 = .ok (.iload_n 3, 1) := by decide +kernel
theorem djdk42m149_45 : decode jdk_42_method_149_code 45 = .ok (.invokestatic 47, 3) := by decide +kernel
theorem djdk42m149_48 : decode jdk_42_method_149_code 48 = .ok (.putfield 15, 3) := by decide +kernel
theorem djdk42m149_51 : decode jdk_42_method_149_code 51 = .ok (.aload_n 0, 1) := by decide +kernel
theorem djdk42m149_52 : decode jdk_42_method_149_code 52 = .ok (.aload 5, 2) := by decide +kernel
theorem djdk42m149_54 : decode jdk_42_method_149_code 54 = .ok (.putfield 9, 3) := by decide +kernel
theorem djdk42m149_57 : decode jdk_42_method_149_code 57 = .ok (.return_, 1) := by decide +kernel
theorem djdk42m149_58 : decode jdk_42_method_149_code 58 = .ok (.aload_n 0, 1) := by decide +kernel
theorem djdk42m149_59 : decode jdk_42_method_149_code 59 = .ok (.iconst 1, 1) := by decide +kernel
theorem djdk42m149_60 : decode jdk_42_method_149_code 60 = .ok (.putfield 15, 3) := by decide +kernel
theorem djdk42m149_63 : decode jdk_42_method_149_code 63 = .ok (.aload_n 0, 1) := by decide +kernel
theorem djdk42m149_64 : decode jdk_42_method_149_code 64 = .ok (.aload_n 1, 1) := by decide +kernel
theorem djdk42m149_65 : decode jdk_42_method_149_code 65 = .ok (.iload_n 2, 1) := by decide +kernel
theorem djdk42m149_66 : decode jdk_42_method_149_code 66 = .ok (.iload_n 3, 1) := by decide +kernel
theorem djdk42m149_67 : decode jdk_42_method_149_code 67 = .ok (.invokestatic 180, 3) := by decide +kernel
theorem djdk42m149_70 : decode jdk_42_method_149_code 70 = .ok (.putfield 9, 3) := by decide +kernel
theorem djdk42m149_73 : decode jdk_42_method_149_code 73 = .ok (.return_, 1) := by decide +kernel
theorem ef_rm_init4_1 (m : MethodId) (G1 : Int32) (a5 : Addr) (ca : Addr) (kc : ClassId) (cc0 : Int32)  : entryFrame m #[(.ref a5), (.ref ca), (.int (0 : Int32)), (.int (1 : Int32)), .null] 6 = mkF m 0 #[.val (.ref a5), .val (.ref ca), .val (.int (0 : Int32)), .val (.int (1 : Int32)), .val .null, .unset] [] := by  first | (simp [entryFrame, mkF, argsToLocals, Value.category, maxLocals]; done) | rfl
def Q_rm_init4_1 (Z : State) (G1 : Int32) (a5 : Addr) (ca : Addr) (kc : ClassId) (cc0 : Int32) (h0 : Heap) (n0 : Nat) (v : Option Value) (h : Heap) (L : List Loc) : Prop := ∃ (t : Addr) (kt : ClassId), (v = none) ∧ (Fr n0 L) ∧ (Keep h0 h [a5]) ∧ (h0.size ≤ t) ∧ (Fld Z h a5 "java/lang/String" "coder" "B" (.int (0 : Int32))) ∧ (Fld Z h a5 "java/lang/String" "value" "[B" (.ref t)) ∧ (Arv Z h t kt .byte (1 : Int32) [(.int (own_by cc0))] (.int (0 : Int32)))
theorem pd___CII__B : parseMethodDescriptor "([CII)[B" = some ⟨[(.array .char), .int, .int], (some (.array .byte))⟩ := by decide +kernel
theorem pd___BI_B : parseMethodDescriptor "([BI)B" = some ⟨[(.array .byte), .int], (some .byte)⟩ := by decide +kernel
set_option maxRecDepth 65536 in
set_option maxHeartbeats 40000000 in
theorem rm_init4_1 (l : Launch) (Z : State) (a0 : Array Value) (hw : ∀ d ∈ tables_1, d.before a0 Z = true) (ws : List Jvm.Cond) (G1 : Int32) (a5 : Addr) (ca : Addr) (kc : ClassId) (cc0 : Int32) (h0 : Heap) (n0 : Nat) (Z0 : n0 ≤ h0.size) (O2 : Sta Z Z.heap "java/lang/String" "COMPACT_STRINGS" "Z" (.int G1)) (P5 : ¬ G1 = 0) (f2 : Exa Z h0 a5 "java/lang/String") (f3 : Fld Z h0 a5 "java/lang/String" "coder" "B" (.int (0 : Int32))) (f4 : Fld Z h0 a5 "java/lang/String" "value" "[B" .null) (f5 : Arv Z h0 ca kc .char (1 : Int32) [(.int cc0)] (.int (0 : Int32))) (ga : n0 ≤ a5) (nca : a5 ≠ ca) (hg0 : ¬ (255 : Int32) < cc0) (Old0 : OldL Z n0 h0) :
    MetFree l (⟨"java/lang/String", "<init>", "([CIILjava/lang/Void;)V"⟩ : MethodName) (head1 (Jvm.Cond.code (⟨"java/lang/String", "<init>", "([CIILjava/lang/Void;)V"⟩ : MethodName) jdk_42_method_149_code 6 none :: ws) ({ frames := 2, cells := 1, slots := 1, locals := 35 } : Room)) (fun a U => a = #[(.ref a5), (.ref ca), (.int (0 : Int32)), (.int (1 : Int32)), .null] ∧ Z.Warmed39 U.vm ∧ U.heap = h0) (fun _ _ _ _ _ => True) (fun _ U o U' => ∃ v L, o = .returned v ∧ Q_rm_init4_1 Z G1 a5 ca kc cc0 h0 n0 v U'.heap L ∧ FrameEnd U o U' L ({ frames := 2, cells := 1, slots := 1, locals := 35 } : Room).cells ({ frames := 2, cells := 1, slots := 1, locals := 35 } : Room).slots) := by
  refine MetFree.of_bodySF (plainFor_of_name pn_java_lang_String) hisR ?_
  intro p e s m args below meth c s₁ Bd hml0 hP hK
  obtain ⟨rfl, hZ, hh⟩ := hP
  have hx := Bd.exec
  have hby := Bd.bytes
  have hml : c.maxLocals = 6 := hml0
  have hown : s.vm.findClass "java/lang/String" = some m.cls := findClass_of_methodNamed Bd.named
  have hnm := (name_of_methodNamed Bd.named Bd.method).1
  have X0 : Stand p l e ({ frames := 2, cells := 1, slots := 1, locals := 35 } : Room) s m #[(.ref a5), (.ref ca), (.int (0 : Int32)), (.int (1 : Int32)), .null] below meth c s₁ [] 0 0 := Stand.of_body Bd
  have e0 : s₁.heap = h0 := by rw [← hh, Bd.state]; rfl
  have N0 := Fr.nil n0
  have K00 : Keep h0 h0 [a5] := Keep.refl _ _
  have hlk0 : meth.locks = false := by first | assumption | exact BodyLoose.notSynchronized (by assumption) | exact Body.notSynchronized (by assumption)
  show Rch p e below s₁ (entryFrame m #[(.ref a5), (.ref ca), (.int (0 : Int32)), (.int (1 : Int32)), .null] 6) (FinP s (Q_rm_init4_1 Z G1 a5 ca kc cc0 h0 n0) 1 1)
  refine Rch.cast (ef_rm_init4_1 m G1 a5 ca kc cc0) ?_
  show Rch p e below s₁ (mkF m 0 #[.val (.ref a5), .val (.ref ca), .val (.int (0 : Int32)), .val (.int (1 : Int32)), .val .null, .unset] []) _
  refine w_aloadN (pc' := 1) X0 hx hby djdk42m149_0 rfl rfl rfl ?_
  obtain ⟨T85, X85, e85, st85⟩ := initO X0 hx hZ hown (hw _ (List.mem_of_getElem? (i := 12) rfl)) (hw _ (List.mem_of_getElem? (i := 13) rfl)) (hw _ (List.mem_of_getElem? (i := 14) rfl)) e0 (g := (mkF m 1 #[.val (.ref a5), .val (.ref ca), .val (.int (0 : Int32)), .val (.int (1 : Int32)), .val .null, .unset] [(.ref a5)])) rfl (by rw [hml]; rfl) rfl (hb hby djdk42m149_1) (by decide) (W := 0) (by show 2 * 0 + _ ≤ _; exact Nat.le_of_eq rfl) (by decide)
  refine Rch.st (fun _ k => st85 _ k) ?_
  show Rch p e below T85 (mkF m 4 #[.val (.ref a5), .val (.ref ca), .val (.int (0 : Int32)), .val (.int (1 : Int32)), .val .null, .unset] []) _
  refine w_iloadN (pc' := 5) X85 hx hby djdk42m149_4 rfl rfl ?_
  refine w_ifYes (pc' := 27) X85 hx hby djdk42m149_5 (XT.i0_ne_t (by decide)) (by decide) ?_
  obtain ⟨T86, X86, e86, st86⟩ := getS X85 hx hZ hown (host := "") (hw _ (List.mem_of_getElem? (i := 48) rfl)) Via.refl e85 (O2.ext Old0.2) (g := (mkF m 27 #[.val (.ref a5), .val (.ref ca), .val (.int (0 : Int32)), .val (.int (1 : Int32)), .val .null, .unset] [])) rfl (hb hby djdk42m149_27)
  refine Rch.st (fun _ k => st86 _ k) ?_
  show Rch p e below T86 (mkF m 30 #[.val (.ref a5), .val (.ref ca), .val (.int (0 : Int32)), .val (.int (1 : Int32)), .val .null, .unset] [(.int G1)]) _
  refine w_ifNo (pc' := 33) X86 hx hby djdk42m149_30 (XT.i0_eq_f (P5)) rfl ?_
  refine w_aloadN (pc' := 34) X86 hx hby djdk42m149_33 rfl rfl rfl ?_
  refine w_iloadN (pc' := 35) X86 hx hby djdk42m149_34 rfl rfl ?_
  refine w_iloadN (pc' := 36) X86 hx hby djdk42m149_35 rfl rfl ?_
  obtain ⟨_, _, ⟨T87, L87, k87, n87⟩, -, X87, ⟨Lc87, hQ87, l87, y87, z87⟩, st87⟩ := Jvm.LawKit.callS X86 hx (y := (⟨"java/lang/StringUTF16", "compress", "([CII)[B"⟩ : MethodName)) hown (mvT hZ (hw _ (List.mem_of_getElem? (i := 50) rfl))) (mvT hZ (hw _ (List.mem_of_getElem? (i := 51) rfl))) (mvT hZ (hw _ (List.mem_of_getElem? (i := 52) rfl))) (mvT hZ (hw _ (List.mem_of_getElem? (i := 53) rfl))) (by decide) (backOf (W := 0) (rm_cmp3_1 l Z a0 hw [] ca kc cc0 h0 n0 Z0 f5 (hg0)) hZ (hw _ (List.mem_of_getElem? (i := 53) rfl)) (hw _ (List.mem_of_getElem? (i := 52) rfl)) (by decide) (by decide)) (g := (mkF m 36 #[.val (.ref a5), .val (.ref ca), .val (.int (0 : Int32)), .val (.int (1 : Int32)), .val .null, .unset] [(.int (1 : Int32)), (.int (0 : Int32)), (.ref ca)])) rfl (by rw [hml]; rfl) (argsL := [(.ref ca), (.int (0 : Int32)), (.int (1 : Int32))]) (rest := []) (lenOf pd___CII__B rfl) rfl (by show 2 * 0 + _ ≤ _; exact Nat.le_of_eq rfl) (hb hby djdk42m149_36) (fun _ _ => ⟨rfl, e86, (by decide : 0 + 1 ≤ _), (by decide : 0 + 1 ≤ _)⟩)
  dsimp only [Pt.U, Pt.locs, Pt.cells, Pt.slots] at X87 l87 y87 z87 st87 hQ87
  subst l87 y87 z87
  obtain ⟨t_87, kt_87, rfl, NQ87, K87, pq87_0, fq87_0⟩ := hQ87
  have N88 := Fr.app N0 NQ87
  have ne89 : a5 ≠ t_87 := Nat.ne_of_lt (Nat.lt_of_lt_of_le f2.lt pq87_0)
  have ne90 : ca ≠ t_87 := Nat.ne_of_lt (Nat.lt_of_lt_of_le f5.lt pq87_0)
  have ge91 : n0 ≤ t_87 := Nat.le_trans Z0 pq87_0
  have f92 : Exa Z T87.heap a5 "java/lang/String" := f2.keep K87
  have f93 : Fld Z T87.heap a5 "java/lang/String" "coder" "B" (.int (0 : Int32)) := f3.keep K87 nin0
  have f94 : Fld Z T87.heap a5 "java/lang/String" "value" "[B" .null := f4.keep K87 nin0
  have f95 : Arv Z T87.heap ca kc .char (1 : Int32) [(.int cc0)] (.int (0 : Int32)) := f5.keep K87 nin0
  have Old96 := Old0.keep K87 all0
  have Kp97 : Keep h0 T87.heap [a5] := K00.trans K87 all0
  have Z98 := Nat.le_trans Z0 K87.1
  refine Rch.st (fun _ k => st87 _ k) ?_
  show Rch p e below T87 (mkF m 39 #[.val (.ref a5), .val (.ref ca), .val (.int (0 : Int32)), .val (.int (1 : Int32)), .val .null, .unset] [(.ref t_87)]) _
  refine w_astore (pc' := 41) (l' := #[.val (.ref a5), .val (.ref ca), .val (.int (0 : Int32)), .val (.int (1 : Int32)), .val .null, .val (.ref t_87)]) X87 hx hby djdk42m149_39 rfl rfl rfl ?_
  refine w_aloadN (pc' := 42) X87 hx hby djdk42m149_41 rfl rfl rfl ?_
  refine w_aload (pc' := 44) X87 hx hby djdk42m149_42 rfl rfl rfl ?_
  refine w_iloadN (pc' := 45) X87 hx hby djdk42m149_44 rfl rfl ?_
  obtain ⟨_, _, ⟨T99, L99, k99, n99⟩, -, X99, ⟨Lc99, hQ99, l99, y99, z99⟩, st99⟩ := Jvm.LawKit.callS X87 hx (y := (⟨"java/lang/StringUTF16", "coderFromArrayLen", "([BI)B"⟩ : MethodName)) hown (mvT hZ (hw _ (List.mem_of_getElem? (i := 57) rfl))) (mvT hZ (hw _ (List.mem_of_getElem? (i := 58) rfl))) (mvT hZ (hw _ (List.mem_of_getElem? (i := 52) rfl))) (mvT hZ (hw _ (List.mem_of_getElem? (i := 59) rfl))) (by decide) (backOf (W := 1) (rm_cfl l Z a0 hw [] t_87 kt_87 (1 : Int32) (1 : Int32) ([(.int (own_by cc0))]) (.int (0 : Int32)) T87.heap n0 Z98 fq87_0) hZ (hw _ (List.mem_of_getElem? (i := 59) rfl)) (hw _ (List.mem_of_getElem? (i := 52) rfl)) (by decide) (by decide)) (g := (mkF m 45 #[.val (.ref a5), .val (.ref ca), .val (.int (0 : Int32)), .val (.int (1 : Int32)), .val .null, .val (.ref t_87)] [(.int (1 : Int32)), (.ref t_87), (.ref a5)])) rfl (by rw [hml]; rfl) (argsL := [(.ref t_87), (.int (1 : Int32))]) (rest := [(.ref a5)]) (lenOf pd___BI_B rfl) rfl (by show 2 * 0 + _ ≤ _; exact Nat.le_of_eq rfl) (hb hby djdk42m149_45) (fun _ _ => ⟨rfl, (rfl : T87.heap = T87.heap), (by decide : 1 + 0 ≤ _), (by decide : 1 + 0 ≤ _)⟩)
  dsimp only [Pt.U, Pt.locs, Pt.cells, Pt.slots] at X99 l99 y99 z99 st99 hQ99
  subst l99 y99 z99
  obtain ⟨rfl, NQ99, K99⟩ := hQ99
  have N100 := Fr.app N88 NQ99
  refine Rch.st (fun _ k => st99 _ k) ?_
  show Rch p e below T99 (mkF m 48 #[.val (.ref a5), .val (.ref ca), .val (.int (0 : Int32)), .val (.int (1 : Int32)), .val .null, .val (.ref t_87)] [(.int ((XT.ushr ((1 : Int32) - (1 : Int32)) (31 : Int32))).toInt8.toInt32), (.ref a5)]) _
  have r101 : ((XT.ushr ((1 : Int32) - (1 : Int32)) (31 : Int32))).toInt8.toInt32 = (0 : Int32) := by decide
  rw [r101]
  show Rch p e below T99 (mkF m 48 #[.val (.ref a5), .val (.ref ca), .val (.int (0 : Int32)), .val (.int (1 : Int32)), .val .null, .val (.ref t_87)] [(.int (0 : Int32)), (.ref a5)]) _
  obtain ⟨T102, h102, X102, e102, W102, st102⟩ := putF X99 hx hZ hown (host := "") (Or.inl (hw _ (List.mem_of_getElem? (i := 22) rfl))) Via.refl K99 f93 f92 (Or.inr ⟨(hw _ (List.mem_of_getElem? (i := 18) rfl)), rfl, hnm⟩) (hw _ (List.mem_of_getElem? (i := 3) rfl)) (ty := .byte) (by decide) rfl rfl (g := (mkF m 48 #[.val (.ref a5), .val (.ref ca), .val (.int (0 : Int32)), .val (.int (1 : Int32)), .val .null, .val (.ref t_87)] [(.int (0 : Int32)), (.ref a5)])) rfl rfl (hb hby djdk42m149_48)
  have N103 := Fr.snoc X102 N100 ga
  have f104 : Exa Z h102 a5 "java/lang/String" := f92.wr W102
  have f105 : Fld Z h102 a5 "java/lang/String" "coder" "B" (.int (0 : Int32)) := f93.same W102
  have f106 : Fld Z h102 a5 "java/lang/String" "value" "[B" .null := f94.other W102 (Or.inr (slot_ne (t := (.array .byte)) (t' := .byte) (Or.inr (hw _ (List.mem_of_getElem? (i := 17) rfl))) (Or.inr (hw _ (List.mem_of_getElem? (i := 18) rfl))) (by decide) (by decide) (by decide)))
  have f107 : Arv Z h102 ca kc .char (1 : Int32) [(.int cc0)] (.int (0 : Int32)) := f95.other W102 (Ne.symm nca)
  have f108 : Arv Z h102 t_87 kt_87 .byte (1 : Int32) [(.int (own_by cc0))] (.int (0 : Int32)) := fq87_0.other W102 (Ne.symm ne89)
  have Old109 := Old96.wr W102 ga
  have Z110 := Nat.le_trans Z98 (Keep.of_wr W102).1
  have Kp111 : Keep h0 h102 [a5] := Kp97.wr W102 (Or.inl (List.mem_of_getElem? (i := 0) rfl))
  refine Rch.st (fun _ k => st102 _ k) ?_
  show Rch p e below T102 (mkF m 51 #[.val (.ref a5), .val (.ref ca), .val (.int (0 : Int32)), .val (.int (1 : Int32)), .val .null, .val (.ref t_87)] []) _
  refine w_aloadN (pc' := 52) X102 hx hby djdk42m149_51 rfl rfl rfl ?_
  refine w_aload (pc' := 54) X102 hx hby djdk42m149_52 rfl rfl rfl ?_
  obtain ⟨T112, h112, X112, e112, W112, st112⟩ := putF X102 hx hZ hown (host := "") (Or.inl (hw _ (List.mem_of_getElem? (i := 21) rfl))) Via.refl e102 f106 f104 (Or.inr ⟨(hw _ (List.mem_of_getElem? (i := 17) rfl)), rfl, hnm⟩) (hw _ (List.mem_of_getElem? (i := 3) rfl)) (ty := (.array .byte)) (by decide) rfl rfl (g := (mkF m 54 #[.val (.ref a5), .val (.ref ca), .val (.int (0 : Int32)), .val (.int (1 : Int32)), .val .null, .val (.ref t_87)] [(.ref t_87), (.ref a5)])) rfl rfl (hb hby djdk42m149_54)
  have N113 := Fr.snoc X112 N103 ga
  have f114 : Exa Z h112 a5 "java/lang/String" := f104.wr W112
  have f115 : Fld Z h112 a5 "java/lang/String" "coder" "B" (.int (0 : Int32)) := f105.other W112 (Or.inr (slot_ne (t := .byte) (t' := (.array .byte)) (Or.inr (hw _ (List.mem_of_getElem? (i := 18) rfl))) (Or.inr (hw _ (List.mem_of_getElem? (i := 17) rfl))) (by decide) (by decide) (by decide)))
  have f116 : Fld Z h112 a5 "java/lang/String" "value" "[B" (.ref t_87) := f106.same W112
  have f117 : Arv Z h112 ca kc .char (1 : Int32) [(.int cc0)] (.int (0 : Int32)) := f107.other W112 (Ne.symm nca)
  have f118 : Arv Z h112 t_87 kt_87 .byte (1 : Int32) [(.int (own_by cc0))] (.int (0 : Int32)) := f108.other W112 (Ne.symm ne89)
  have Old119 := Old109.wr W112 ga
  have Z120 := Nat.le_trans Z110 (Keep.of_wr W112).1
  have Kp121 : Keep h0 h112 [a5] := Kp111.wr W112 (Or.inl (List.mem_of_getElem? (i := 0) rfl))
  refine Rch.st (fun _ k => st112 _ k) ?_
  show Rch p e below T112 (mkF m 57 #[.val (.ref a5), .val (.ref ca), .val (.int (0 : Int32)), .val (.int (1 : Int32)), .val .null, .val (.ref t_87)] []) _
  exact Rch.ret0 X112 hx Bd.returns (hb hby djdk42m149_57) (by rw [e112]; exact ⟨t_87, kt_87, rfl, N113, Kp121, (Nat.le_trans K00.1 pq87_0), f115, f116, f118⟩) (by decide) (by decide)

theorem djdk42m3_0 : decode jdk_42_method_3_code 0 = .ok (.aload_n 0, 1) := by decide +kernel
theorem djdk42m3_1 : decode jdk_42_method_3_code 1 = .ok (.aload_n 1, 1) := by decide +kernel
theorem djdk42m3_2 : decode jdk_42_method_3_code 2 = .ok (.iconst 0, 1) := by decide +kernel
theorem djdk42m3_3 : decode jdk_42_method_3_code 3 = .ok (.aload_n 1, 1) := by decide +kernel
theorem djdk42m3_4 : decode jdk_42_method_3_code 4 = .ok (.arraylength, 1) := by decide +kernel
theorem djdk42m3_5 : decode jdk_42_method_3_code 5 = .ok (.aconst_null, 1) := by decide +kernel
theorem djdk42m3_6 : decode jdk_42_method_3_code 6 = .ok (.invokespecial 27, 3) := by decide +kernel
theorem djdk42m3_9 : decode jdk_42_method_3_code 9 = .ok (.return_, 1) := by decide +kernel
theorem ef_rm_init1_1 (m : MethodId) (G1 : Int32) (a5 : Addr) (ca : Addr) (kc : ClassId) (cc0 : Int32)  : entryFrame m #[(.ref a5), (.ref ca)] 2 = mkF m 0 #[.val (.ref a5), .val (.ref ca)] [] := by  first | (simp [entryFrame, mkF, argsToLocals, Value.category, maxLocals]; done) | rfl
def Q_rm_init1_1 (Z : State) (G1 : Int32) (a5 : Addr) (ca : Addr) (kc : ClassId) (cc0 : Int32) (h0 : Heap) (n0 : Nat) (v : Option Value) (h : Heap) (L : List Loc) : Prop := ∃ (t : Addr) (kt : ClassId), (v = none) ∧ (Fr n0 L) ∧ (Keep h0 h [a5]) ∧ (h0.size ≤ t) ∧ (Fld Z h a5 "java/lang/String" "coder" "B" (.int (0 : Int32))) ∧ (Fld Z h a5 "java/lang/String" "value" "[B" (.ref t)) ∧ (Arv Z h t kt .byte (1 : Int32) [(.int (own_by cc0))] (.int (0 : Int32)))
theorem pd___CIILjava_lang_Void__V : parseMethodDescriptor "([CIILjava/lang/Void;)V" = some ⟨[(.array .char), .int, .int, (.object "java/lang/Void")], none⟩ := by decide +kernel
set_option maxRecDepth 65536 in
set_option maxHeartbeats 40000000 in
theorem rm_init1_1 (l : Launch) (Z : State) (a0 : Array Value) (hw : ∀ d ∈ tables_1, d.before a0 Z = true) (ws : List Jvm.Cond) (G1 : Int32) (a5 : Addr) (ca : Addr) (kc : ClassId) (cc0 : Int32) (h0 : Heap) (n0 : Nat) (Z0 : n0 ≤ h0.size) (O2 : Sta Z Z.heap "java/lang/String" "COMPACT_STRINGS" "Z" (.int G1)) (P5 : ¬ G1 = 0) (f2 : Exa Z h0 a5 "java/lang/String") (f3 : Fld Z h0 a5 "java/lang/String" "coder" "B" (.int (0 : Int32))) (f4 : Fld Z h0 a5 "java/lang/String" "value" "[B" .null) (f5 : Arv Z h0 ca kc .char (1 : Int32) [(.int cc0)] (.int (0 : Int32))) (ga : n0 ≤ a5) (nca : a5 ≠ ca) (hg0 : ¬ (255 : Int32) < cc0) (Old0 : OldL Z n0 h0) :
    MetFree l (⟨"java/lang/String", "<init>", "([C)V"⟩ : MethodName) (head1 (Jvm.Cond.code (⟨"java/lang/String", "<init>", "([C)V"⟩ : MethodName) jdk_42_method_3_code 2 none :: ws) ({ frames := 3, cells := 1, slots := 1, locals := 52 } : Room)) (fun a U => a = #[(.ref a5), (.ref ca)] ∧ Z.Warmed39 U.vm ∧ U.heap = h0) (fun _ _ _ _ _ => True) (fun _ U o U' => ∃ v L, o = .returned v ∧ Q_rm_init1_1 Z G1 a5 ca kc cc0 h0 n0 v U'.heap L ∧ FrameEnd U o U' L ({ frames := 3, cells := 1, slots := 1, locals := 52 } : Room).cells ({ frames := 3, cells := 1, slots := 1, locals := 52 } : Room).slots) := by
  refine MetFree.of_bodySF (plainFor_of_name pn_java_lang_String) hisR ?_
  intro p e s m args below meth c s₁ Bd hml0 hP hK
  obtain ⟨rfl, hZ, hh⟩ := hP
  have hx := Bd.exec
  have hby := Bd.bytes
  have hml : c.maxLocals = 2 := hml0
  have hown : s.vm.findClass "java/lang/String" = some m.cls := findClass_of_methodNamed Bd.named
  have hnm := (name_of_methodNamed Bd.named Bd.method).1
  have X0 : Stand p l e ({ frames := 3, cells := 1, slots := 1, locals := 52 } : Room) s m #[(.ref a5), (.ref ca)] below meth c s₁ [] 0 0 := Stand.of_body Bd
  have e0 : s₁.heap = h0 := by rw [← hh, Bd.state]; rfl
  have N0 := Fr.nil n0
  have K00 : Keep h0 h0 [a5] := Keep.refl _ _
  have hlk0 : meth.locks = false := by first | assumption | exact BodyLoose.notSynchronized (by assumption) | exact Body.notSynchronized (by assumption)
  show Rch p e below s₁ (entryFrame m #[(.ref a5), (.ref ca)] 2) (FinP s (Q_rm_init1_1 Z G1 a5 ca kc cc0 h0 n0) 1 1)
  refine Rch.cast (ef_rm_init1_1 m G1 a5 ca kc cc0) ?_
  show Rch p e below s₁ (mkF m 0 #[.val (.ref a5), .val (.ref ca)] []) _
  refine w_aloadN (pc' := 1) X0 hx hby djdk42m3_0 rfl rfl rfl ?_
  refine w_aloadN (pc' := 2) X0 hx hby djdk42m3_1 rfl rfl rfl ?_
  refine w_iconst (pc' := 3) (v := 0) X0 hx hby djdk42m3_2 rfl rfl ?_
  refine w_aloadN (pc' := 4) X0 hx hby djdk42m3_3 rfl rfl rfl ?_
  refine Rch.st (fun _ k => own_alen X0 hx hZ e0 f5 rfl rfl (hb hby djdk42m3_4) k) ?_
  show Rch p e below s₁ (mkF m 5 #[.val (.ref a5), .val (.ref ca)] [(.int (1 : Int32)), (.int (0 : Int32)), (.ref ca), (.ref a5)]) _
  refine w_aconstNull (pc' := 6) X0 hx hby djdk42m3_5 rfl ?_
  obtain ⟨_, _, ⟨T122, L122, k122, n122⟩, -, X122, ⟨Lc122, hQ122, l122, y122, z122⟩, st122⟩ := X0.specialBack hx (y := (⟨"java/lang/String", "<init>", "([CIILjava/lang/Void;)V"⟩ : MethodName)) rfl hown (mvT hZ (hw _ (List.mem_of_getElem? (i := 8) rfl))) (mvT hZ (hw _ (List.mem_of_getElem? (i := 9) rfl))) (mvT hZ (hw _ (List.mem_of_getElem? (i := 11) rfl))) (by decide) (backOf (W := 0) (rm_init4_1 l Z a0 hw [] G1 a5 ca kc cc0 h0 n0 Z0 (O2) (P5) f2 f3 f4 f5 (ga) (nca) (hg0) Old0) hZ (hw _ (List.mem_of_getElem? (i := 11) rfl)) (hw _ (List.mem_of_getElem? (i := 4) rfl)) (by decide) (by decide)) (g := (mkF m 6 #[.val (.ref a5), .val (.ref ca)] [.null, (.int (1 : Int32)), (.int (0 : Int32)), (.ref ca), (.ref a5)])) rfl (by rw [hml]; rfl) (Steps.refl _) (a := a5) (argsL := [(.ref ca), (.int (0 : Int32)), (.int (1 : Int32)), .null]) (rest := []) (lenOf pd___CIILjava_lang_Void__V rfl) rfl (by show 2 * 0 + _ ≤ _; exact Nat.le_of_eq rfl) (hb hby djdk42m3_6) (fun _ _ => ⟨rfl, e0, (by decide : 0 + 1 ≤ _), (by decide : 0 + 1 ≤ _)⟩)
  dsimp only [Pt.U, Pt.locs, Pt.cells, Pt.slots] at X122 l122 y122 z122 st122 hQ122
  subst l122 y122 z122
  obtain ⟨t_122, kt_122, rfl, NQ122, K122, pq122_0, fq122_0, fq122_1, fq122_2⟩ := hQ122
  have N123 := Fr.app N0 NQ122
  have ne124 : a5 ≠ t_122 := Nat.ne_of_lt (Nat.lt_of_lt_of_le f2.lt pq122_0)
  have ne125 : ca ≠ t_122 := Nat.ne_of_lt (Nat.lt_of_lt_of_le f5.lt pq122_0)
  have ge126 : n0 ≤ t_122 := Nat.le_trans Z0 pq122_0
  have f127 : Exa Z T122.heap a5 "java/lang/String" := f2.keep K122
  have f128 : Arv Z T122.heap ca kc .char (1 : Int32) [(.int cc0)] (.int (0 : Int32)) := f5.keep K122 (ninS (Ne.symm nca) nin0)
  have Old129 := Old0.keep K122 (allS ga all0)
  have Kp130 : Keep h0 T122.heap [a5] := K00.trans K122 (allS (Or.inl (List.mem_of_getElem? (i := 0) rfl)) all0)
  have Z131 := Nat.le_trans Z0 K122.1
  refine Rch.st (fun _ k => st122.trans k) ?_
  show Rch p e below T122 (mkF m 9 #[.val (.ref a5), .val (.ref ca)] []) _
  exact Rch.ret0 X122 hx Bd.returns (hb hby djdk42m3_9) (by rw [(rfl : T122.heap = T122.heap)]; exact ⟨t_122, kt_122, rfl, N123, Kp130, (Nat.le_trans K00.1 pq122_0), fq122_0, fq122_1, fq122_2⟩) (by decide) (by decide)

theorem djdk52m3_0 : decode jdk_52_method_3_code 0 = .ok (.iload_n 0, 1) := by decide +kernel
theorem djdk52m3_1 : decode jdk_52_method_3_code 1 = .ok (.ifCond .ge 11, 3) := by decide +kernel
theorem djdk52m3_4 : decode jdk_52_method_3_code 4 = .ok (.new 17, 3) := by decide +kernel
theorem djdk52m3_7 : decode jdk_52_method_3_code 7 = .ok (.dup, 1) := by decide +kernel
theorem djdk52m3_8 : decode jdk_52_method_3_code 8 = .ok (.invokespecial 19, 3) := by decide +kernel
theorem djdk52m3_11 : decode jdk_52_method_3_code 11 = .ok (.athrow, 1) := by decide +kernel
theorem djdk52m3_12 : decode jdk_52_method_3_code 12 = .ok (.iload_n 0, 1) := by decide +kernel
theorem djdk52m3_13 : decode jdk_52_method_3_code 13 = .ok (.ldc 20, 2) := by decide +kernel
theorem djdk52m3_15 : decode jdk_52_method_3_code 15 = .ok (.if_icmp .lt 40, 3) := by decide +kernel
theorem djdk52m3_18 : decode jdk_52_method_3_code 18 = .ok (.new 21, 3) := by decide +kernel
theorem djdk52m3_21 : decode jdk_52_method_3_code 21 = .ok (.dup, 1) := by decide +kernel
theorem djdk52m3_22 : decode jdk_52_method_3_code 22 = .ok (.new 23, 3) := by decide +kernel
theorem djdk52m3_25 : decode jdk_52_method_3_code 25 = .ok (.dup, 1) := by decide +kernel
theorem djdk52m3_26 : decode jdk_52_method_3_code 26 = .ok (.invokespecial 25, 3) := by decide +kernel
theorem djdk52m3_29 : decode jdk_52_method_3_code 29 = .ok (.ldc 26, 2) := by decide +kernel
theorem djdk52m3_31 : decode jdk_52_method_3_code 31 = .ok (.invokevirtual 28, 3) := by decide +kernel
theorem djdk52m3_34 : decode jdk_52_method_3_code 34 = .ok (.iload_n 0, 1) := by decide +kernel
theorem djdk52m3_35 : decode jdk_52_method_3_code 35 = .ok (.invokevirtual 32, 3) := by decide +kernel
theorem djdk52m3_38 : decode jdk_52_method_3_code 38 = .ok (.ldc 35, 2) := by decide +kernel
theorem djdk52m3_40 : decode jdk_52_method_3_code 40 = .ok (.invokevirtual 28, 3) := by decide +kernel
theorem djdk52m3_43 : decode jdk_52_method_3_code 43 = .ok (.ldc 20, 2) := by decide +kernel
theorem djdk52m3_45 : decode jdk_52_method_3_code 45 = .ok (.invokevirtual 32, 3) := by decide +kernel
theorem djdk52m3_48 : decode jdk_52_method_3_code 48 = .ok (.invokevirtual 37, 3) := by decide +kernel
theorem djdk52m3_51 : decode jdk_52_method_3_code 51 = .ok (.invokespecial 41, 3) := by decide +kernel
theorem djdk52m3_54 : decode jdk_52_method_3_code 54 = .ok (.athrow, 1) := by decide +kernel
theorem djdk52m3_55 : decode jdk_52_method_3_code 55 = .ok (.iload_n 0, 1) := by decide +kernel
theorem djdk52m3_56 : decode jdk_52_method_3_code 56 = .ok (.iconst 1, 1) := by decide +kernel
theorem djdk52m3_57 : decode jdk_52_method_3_code 57 = .ok (.ishl, 1) := by decide +kernel
theorem djdk52m3_58 : decode jdk_52_method_3_code 58 = .ok (.ireturn, 1) := by decide +kernel
theorem ef_rm_nbl_1 (m : MethodId)   : entryFrame m #[(.int (1 : Int32))] 1 = mkF m 0 #[.val (.int (1 : Int32))] [] := by  first | (simp [entryFrame, mkF, argsToLocals, Value.category, maxLocals]; done) | rfl
def Q_rm_nbl_1 (Z : State)  (h0 : Heap) (n0 : Nat) (v : Option Value) (h : Heap) (L : List Loc) : Prop := (v = some (.int (2 : Int32))) ∧ (Fr n0 L) ∧ (h = h0)
set_option maxRecDepth 65536 in
set_option maxHeartbeats 40000000 in
theorem rm_nbl_1 (l : Launch) (Z : State) (a0 : Array Value) (hw : ∀ d ∈ tables_1, d.before a0 Z = true) (ws : List Jvm.Cond)  (h0 : Heap) (n0 : Nat) (Z0 : n0 ≤ h0.size)  :
    MetFree l (⟨"java/lang/StringUTF16", "newBytesLength", "(I)I"⟩ : MethodName) (head1 (Jvm.Cond.code (⟨"java/lang/StringUTF16", "newBytesLength", "(I)I"⟩ : MethodName) jdk_52_method_3_code 1 (some .int) :: ws) ({ frames := 0, cells := 0, slots := 0, locals := 0 } : Room)) (fun a U => a = #[(.int (1 : Int32))] ∧ Z.Warmed39 U.vm ∧ U.heap = h0) (fun _ _ _ _ _ => True) (fun _ U o U' => ∃ v L, o = .returned v ∧ Q_rm_nbl_1 Z  h0 n0 v U'.heap L ∧ FrameEnd U o U' L ({ frames := 0, cells := 0, slots := 0, locals := 0 } : Room).cells ({ frames := 0, cells := 0, slots := 0, locals := 0 } : Room).slots) := by
  refine MetFree.of_bodySF (plainFor_of_name pn_java_lang_StringUTF16) hisR ?_
  intro p e s m args below meth c s₁ Bd hml0 hP hK
  obtain ⟨rfl, hZ, hh⟩ := hP
  have hx := Bd.exec
  have hby := Bd.bytes
  have hml : c.maxLocals = 1 := hml0
  have hown : s.vm.findClass "java/lang/StringUTF16" = some m.cls := findClass_of_methodNamed Bd.named
  have hnm := (name_of_methodNamed Bd.named Bd.method).1
  have X0 : Stand p l e ({ frames := 0, cells := 0, slots := 0, locals := 0 } : Room) s m #[(.int (1 : Int32))] below meth c s₁ [] 0 0 := Stand.of_body Bd
  have e0 : s₁.heap = h0 := by rw [← hh, Bd.state]; rfl
  have N0 := Fr.nil n0
  have K00 : Keep h0 h0 [] := Keep.refl _ _
  have hlk0 : meth.locks = false := by first | assumption | exact BodyLoose.notSynchronized (by assumption) | exact Body.notSynchronized (by assumption)
  show Rch p e below s₁ (entryFrame m #[(.int (1 : Int32))] 1) (FinP s (Q_rm_nbl_1 Z  h0 n0) 0 0)
  refine Rch.cast (ef_rm_nbl_1 m ) ?_
  show Rch p e below s₁ (mkF m 0 #[.val (.int (1 : Int32))] []) _
  refine w_iloadN (pc' := 1) X0 hx hby djdk52m3_0 rfl rfl ?_
  refine w_ifYes (pc' := 12) X0 hx hby djdk52m3_1 (XT.i0_ge_t (by decide)) (by decide) ?_
  refine w_iloadN (pc' := 13) X0 hx hby djdk52m3_12 rfl rfl ?_
  refine Rch.st (fun _ k => Stand.ldcI X0 hx hown (mv hZ (hw _ (List.mem_of_getElem? (i := 73) rfl))) rfl (hb hby djdk52m3_13) k) ?_
  show Rch p e below s₁ (mkF m 15 #[.val (.int (1 : Int32))] [(.int (1073741823 : Int32)), (.int (1 : Int32))]) _
  refine w_icmpYes (pc' := 55) X0 hx hby djdk52m3_15 (XT.ii_lt_t (by decide)) (by decide) ?_
  refine w_iloadN (pc' := 56) X0 hx hby djdk52m3_55 rfl rfl ?_
  refine w_iconst (pc' := 57) (v := 1) X0 hx hby djdk52m3_56 rfl rfl ?_
  refine w_ishl (pc' := 58) X0 hx hby djdk52m3_57 rfl ?_
  have r132 : ((1 : Int32) <<< ((1 : Int32) &&& 31)) = (2 : Int32) := by decide
  rw [r132]
  show Rch p e below s₁ (mkF m 58 #[.val (.int (1 : Int32))] [(.int (2 : Int32))]) _
  exact Rch.retV X0 hx Bd.returns rfl (Or.inl ⟨rfl, by simp, _, rfl⟩) (hb hby djdk52m3_58) (by rw [e0]; exact ⟨rfl, N0, rfl⟩) (by decide) (by decide)

theorem djdk52m2_0 : decode jdk_52_method_2_code 0 = .ok (.iload_n 0, 1) := by decide +kernel
theorem djdk52m2_1 : decode jdk_52_method_2_code 1 = .ok (.invokestatic 11, 3) := by decide +kernel
theorem djdk52m2_4 : decode jdk_52_method_2_code 4 = .ok (.newarray .byte, 2) := by decide +kernel
theorem djdk52m2_6 : decode jdk_52_method_2_code 6 = .ok (.areturn, 1) := by decide +kernel
theorem ef_rm_nbf_1 (m : MethodId)   : entryFrame m #[(.int (1 : Int32))] 1 = mkF m 0 #[.val (.int (1 : Int32))] [] := by  first | (simp [entryFrame, mkF, argsToLocals, Value.category, maxLocals]; done) | rfl
def Q_rm_nbf_1 (Z : State)  (h0 : Heap) (n0 : Nat) (v : Option Value) (h : Heap) (L : List Loc) : Prop := ∃ (t : Addr) (kt : ClassId), (v = some (.ref t)) ∧ (Fr n0 L) ∧ (Keep h0 h []) ∧ (h0.size ≤ t) ∧ (Arv Z h t kt .byte (2 : Int32) [(.int (0 : Int32)), (.int (0 : Int32))] (.int (0 : Int32)))
theorem pd__I_I : parseMethodDescriptor "(I)I" = some ⟨[.int], (some .int)⟩ := by decide +kernel
set_option maxRecDepth 65536 in
set_option maxHeartbeats 40000000 in
theorem rm_nbf_1 (l : Launch) (Z : State) (a0 : Array Value) (hw : ∀ d ∈ tables_1, d.before a0 Z = true) (ws : List Jvm.Cond)  (h0 : Heap) (n0 : Nat) (Z0 : n0 ≤ h0.size)  :
    MetFree l (⟨"java/lang/StringUTF16", "newBytesFor", "(I)[B"⟩ : MethodName) (head1 (Jvm.Cond.code (⟨"java/lang/StringUTF16", "newBytesFor", "(I)[B"⟩ : MethodName) jdk_52_method_2_code 1 (some (.array .byte)) :: ws) ({ frames := 1, cells := 1, slots := 2, locals := 12 } : Room)) (fun a U => a = #[(.int (1 : Int32))] ∧ Z.Warmed39 U.vm ∧ U.heap = h0) (fun _ _ _ _ _ => True) (fun _ U o U' => ∃ v L, o = .returned v ∧ Q_rm_nbf_1 Z  h0 n0 v U'.heap L ∧ FrameEnd U o U' L ({ frames := 1, cells := 1, slots := 2, locals := 12 } : Room).cells ({ frames := 1, cells := 1, slots := 2, locals := 12 } : Room).slots) := by
  refine MetFree.of_bodySF (plainFor_of_name pn_java_lang_StringUTF16) hisR ?_
  intro p e s m args below meth c s₁ Bd hml0 hP hK
  obtain ⟨rfl, hZ, hh⟩ := hP
  have hx := Bd.exec
  have hby := Bd.bytes
  have hml : c.maxLocals = 1 := hml0
  have hown : s.vm.findClass "java/lang/StringUTF16" = some m.cls := findClass_of_methodNamed Bd.named
  have hnm := (name_of_methodNamed Bd.named Bd.method).1
  have X0 : Stand p l e ({ frames := 1, cells := 1, slots := 2, locals := 12 } : Room) s m #[(.int (1 : Int32))] below meth c s₁ [] 0 0 := Stand.of_body Bd
  have e0 : s₁.heap = h0 := by rw [← hh, Bd.state]; rfl
  have N0 := Fr.nil n0
  have K00 : Keep h0 h0 [] := Keep.refl _ _
  have hlk0 : meth.locks = false := by first | assumption | exact BodyLoose.notSynchronized (by assumption) | exact Body.notSynchronized (by assumption)
  show Rch p e below s₁ (entryFrame m #[(.int (1 : Int32))] 1) (FinP s (Q_rm_nbf_1 Z  h0 n0) 1 2)
  refine Rch.cast (ef_rm_nbf_1 m ) ?_
  show Rch p e below s₁ (mkF m 0 #[.val (.int (1 : Int32))] []) _
  refine w_iloadN (pc' := 1) X0 hx hby djdk52m2_0 rfl rfl ?_
  obtain ⟨_, _, ⟨T133, L133, k133, n133⟩, -, X133, ⟨Lc133, hQ133, l133, y133, z133⟩, st133⟩ := Jvm.LawKit.callS X0 hx (y := (⟨"java/lang/StringUTF16", "newBytesLength", "(I)I"⟩ : MethodName)) hown (mvT hZ (hw _ (List.mem_of_getElem? (i := 70) rfl))) (mvT hZ (hw _ (List.mem_of_getElem? (i := 71) rfl))) (mvT hZ (hw _ (List.mem_of_getElem? (i := 52) rfl))) (mvT hZ (hw _ (List.mem_of_getElem? (i := 72) rfl))) (by decide) (backOf (W := 0) (rm_nbl_1 l Z a0 hw []  h0 n0 Z0 ) hZ (hw _ (List.mem_of_getElem? (i := 72) rfl)) (hw _ (List.mem_of_getElem? (i := 52) rfl)) (by decide) (by decide)) (g := (mkF m 1 #[.val (.int (1 : Int32))] [(.int (1 : Int32))])) rfl (by rw [hml]; rfl) (argsL := [(.int (1 : Int32))]) (rest := []) (lenOf pd__I_I rfl) rfl (by show 2 * 0 + _ ≤ _; exact Nat.le_of_eq rfl) (hb hby djdk52m2_1) (fun _ _ => ⟨rfl, e0, (by decide : 0 + 0 ≤ _), (by decide : 0 + 0 ≤ _)⟩)
  dsimp only [Pt.U, Pt.locs, Pt.cells, Pt.slots] at X133 l133 y133 z133 st133 hQ133
  subst l133 y133 z133
  obtain ⟨rfl, NQ133, K133⟩ := hQ133
  have N134 := Fr.app N0 NQ133
  refine Rch.st (fun _ k => st133 _ k) ?_
  show Rch p e below T133 (mkF m 4 #[.val (.int (1 : Int32))] [(.int (2 : Int32))]) _
  obtain ⟨T135, h135, kc135, X135, e135, E135, A135, st135⟩ := newP X133 hx hZ (hw _ (List.mem_of_getElem? (i := 16) rfl)) K133 (g := (mkF m 4 #[.val (.int (1 : Int32))] [(.int (2 : Int32))])) rfl (hb hby djdk52m2_4) rfl (by decide : ¬ ((2 : Int32) < (0 : Int32))) (cap := 2) (by decide : (2 : Int32).toNatClampNeg ≤ 2) (by decide) (by decide) (by decide)
  obtain ⟨a135, g135⟩ : ∃ z, z = h0.size := ⟨_, rfl⟩
  rw [← g135] at A135 st135
  have ge136 : n0 ≤ a135 := Nat.le_trans Z0 (Nat.le_of_eq g135.symm)
  have Z138 := Nat.le_trans Z0 E135.1
  have Kp139 : Keep h0 h135 [] := K00.ext E135
  have f140 : Arv Z h135 a135 kc135 .byte (2 : Int32) [(.int (0 : Int32)), (.int (0 : Int32))] (.int (0 : Int32)) := (Arv.new A135 (by decide : ¬ ((2 : Int32) < (0 : Int32)))).pad (pad_rep [] (.int (0 : Int32)) 2)
  refine Rch.st (fun _ k => st135 _ k) ?_
  show Rch p e below T135 (mkF m 6 #[.val (.int (1 : Int32))] [(.ref a135)]) _
  exact Rch.retV X135 hx Bd.returns rfl (Or.inr (Or.inr (Or.inr (Or.inr ⟨rfl, rfl, rfl⟩)))) (hb hby djdk52m2_6) (by rw [e135]; exact ⟨a135, kc135, rfl, N134, Kp139, (Nat.le_trans K00.1 (Nat.le_of_eq g135.symm)), f140⟩) (by decide) (by decide)

theorem djdk52m14_0 : decode jdk_52_method_14_code 0 = .ok (.iload_n 2, 1) := by decide +kernel
theorem djdk52m14_1 : decode jdk_52_method_14_code 1 = .ok (.invokestatic 107, 3) := by decide +kernel
theorem djdk52m14_4 : decode jdk_52_method_14_code 4 = .ok (.astore_n 3, 1) := by decide +kernel
theorem djdk52m14_5 : decode jdk_52_method_14_code 5 = .ok (.iconst 0, 1) := by decide +kernel
theorem djdk52m14_6 : decode jdk_52_method_14_code 6 = .ok (.istore 4, 2) := by decide +kernel
theorem djdk52m14_8 : decode jdk_52_method_14_code 8 = .ok (.iload 4, 2) := by decide +kernel
theorem djdk52m14_10 : decode jdk_52_method_14_code 10 = .ok (.iload_n 2, 1) := by decide +kernel
theorem djdk52m14_11 : decode jdk_52_method_14_code 11 = .ok (.if_icmp .ge 21, 3) := by decide +kernel
theorem djdk52m14_14 : decode jdk_52_method_14_code 14 = .ok (.aload_n 3, 1) := by decide +kernel
theorem djdk52m14_15 : decode jdk_52_method_14_code 15 = .ok (.iload 4, 2) := by decide +kernel
theorem djdk52m14_17 : decode jdk_52_method_14_code 17 = .ok (.aload_n 0, 1) := by decide +kernel
theorem djdk52m14_18 : decode jdk_52_method_14_code 18 = .ok (.iload_n 1, 1) := by decide +kernel
theorem djdk52m14_19 : decode jdk_52_method_14_code 19 = .ok (.caload, 1) := by decide +kernel
theorem djdk52m14_20 : decode jdk_52_method_14_code 20 = .ok (.invokestatic 111, 3) := by decide +kernel
theorem djdk52m14_23 : decode jdk_52_method_14_code 23 = .ok (.iinc 1 1, 3) := by decide +kernel
theorem djdk52m14_26 : decode jdk_52_method_14_code 26 = .ok (.iinc 4 1, 3) := by decide +kernel
theorem djdk52m14_29 : decode jdk_52_method_14_code 29 = .ok (.goto (-21), 3) := by decide +kernel
theorem djdk52m14_32 : decode jdk_52_method_14_code 32 = .ok (.aload_n 3, 1) := by decide +kernel
theorem djdk52m14_33 : decode jdk_52_method_14_code 33 = .ok (.areturn, 1) := by decide +kernel
theorem ef_rm_tob_1 (m : MethodId) (ca : Addr) (kc : ClassId) (cc0 : Int32)  : entryFrame m #[(.ref ca), (.int (0 : Int32)), (.int (1 : Int32))] 5 = mkF m 0 #[.val (.ref ca), .val (.int (0 : Int32)), .val (.int (1 : Int32)), .unset, .unset] [] := by  first | (simp [entryFrame, mkF, argsToLocals, Value.category, maxLocals]; done) | rfl
def Q_rm_tob_1 (Z : State) (ca : Addr) (kc : ClassId) (cc0 : Int32) (h0 : Heap) (n0 : Nat) (v : Option Value) (h : Heap) (L : List Loc) : Prop := ∃ (t : Addr) (kt : ClassId), (v = some (.ref t)) ∧ (Fr n0 L) ∧ (Keep h0 h []) ∧ (h0.size ≤ t) ∧ (Arv Z h t kt .byte (2 : Int32) [(.int (own_lo cc0)), (.int (own_hi cc0))] (.int (0 : Int32)))
theorem pd__I__B : parseMethodDescriptor "(I)[B" = some ⟨[.int], (some (.array .byte))⟩ := by decide +kernel
theorem pd___BII_V : parseMethodDescriptor "([BII)V" = some ⟨[(.array .byte), .int, .int], none⟩ := by decide +kernel
set_option maxRecDepth 65536 in
set_option maxHeartbeats 40000000 in
theorem rm_tob_1 (l : Launch) (Z : State) (a0 : Array Value) (hw : ∀ d ∈ tables_1, d.before a0 Z = true) (ws : List Jvm.Cond) (ca : Addr) (kc : ClassId) (cc0 : Int32) (h0 : Heap) (n0 : Nat) (Z0 : n0 ≤ h0.size) (SA : Sta Z Z.heap "java/lang/StringUTF16" "$assertionsDisabled" "Z" (.int 1)) (SH : Sta Z Z.heap "java/lang/StringUTF16" "HI_BYTE_SHIFT" "I" (.int 0)) (SL : Sta Z Z.heap "java/lang/StringUTF16" "LO_BYTE_SHIFT" "I" (.int 8)) (f3 : Arv Z h0 ca kc .char (1 : Int32) [(.int cc0)] (.int (0 : Int32))) (Old0 : OldL Z n0 h0) :
    MetFree l (⟨"java/lang/StringUTF16", "toBytes", "([CII)[B"⟩ : MethodName) (head1 (Jvm.Cond.code (⟨"java/lang/StringUTF16", "toBytes", "([CII)[B"⟩ : MethodName) jdk_52_method_14_code 5 (some (.array .byte)) :: ws) ({ frames := 2, cells := 1, slots := 2, locals := 24 } : Room)) (fun a U => a = #[(.ref ca), (.int (0 : Int32)), (.int (1 : Int32))] ∧ Z.Warmed39 U.vm ∧ U.heap = h0) (fun _ _ _ _ _ => True) (fun _ U o U' => ∃ v L, o = .returned v ∧ Q_rm_tob_1 Z ca kc cc0 h0 n0 v U'.heap L ∧ FrameEnd U o U' L ({ frames := 2, cells := 1, slots := 2, locals := 24 } : Room).cells ({ frames := 2, cells := 1, slots := 2, locals := 24 } : Room).slots) := by
  refine MetFree.of_bodySF (plainFor_of_name pn_java_lang_StringUTF16) hisR ?_
  intro p e s m args below meth c s₁ Bd hml0 hP hK
  obtain ⟨rfl, hZ, hh⟩ := hP
  have hx := Bd.exec
  have hby := Bd.bytes
  have hml : c.maxLocals = 5 := hml0
  have hown : s.vm.findClass "java/lang/StringUTF16" = some m.cls := findClass_of_methodNamed Bd.named
  have hnm := (name_of_methodNamed Bd.named Bd.method).1
  have X0 : Stand p l e ({ frames := 2, cells := 1, slots := 2, locals := 24 } : Room) s m #[(.ref ca), (.int (0 : Int32)), (.int (1 : Int32))] below meth c s₁ [] 0 0 := Stand.of_body Bd
  have e0 : s₁.heap = h0 := by rw [← hh, Bd.state]; rfl
  have N0 := Fr.nil n0
  have K00 : Keep h0 h0 [] := Keep.refl _ _
  have hlk0 : meth.locks = false := by first | assumption | exact BodyLoose.notSynchronized (by assumption) | exact Body.notSynchronized (by assumption)
  show Rch p e below s₁ (entryFrame m #[(.ref ca), (.int (0 : Int32)), (.int (1 : Int32))] 5) (FinP s (Q_rm_tob_1 Z ca kc cc0 h0 n0) 1 2)
  refine Rch.cast (ef_rm_tob_1 m ca kc cc0) ?_
  show Rch p e below s₁ (mkF m 0 #[.val (.ref ca), .val (.int (0 : Int32)), .val (.int (1 : Int32)), .unset, .unset] []) _
  refine w_iloadN (pc' := 1) X0 hx hby djdk52m14_0 rfl rfl ?_
  obtain ⟨_, _, ⟨T141, L141, k141, n141⟩, -, X141, ⟨Lc141, hQ141, l141, y141, z141⟩, st141⟩ := Jvm.LawKit.callS X0 hx (y := (⟨"java/lang/StringUTF16", "newBytesFor", "(I)[B"⟩ : MethodName)) hown (mvT hZ (hw _ (List.mem_of_getElem? (i := 67) rfl))) (mvT hZ (hw _ (List.mem_of_getElem? (i := 68) rfl))) (mvT hZ (hw _ (List.mem_of_getElem? (i := 52) rfl))) (mvT hZ (hw _ (List.mem_of_getElem? (i := 69) rfl))) (by decide) (backOf (W := 0) (rm_nbf_1 l Z a0 hw []  h0 n0 Z0 ) hZ (hw _ (List.mem_of_getElem? (i := 69) rfl)) (hw _ (List.mem_of_getElem? (i := 52) rfl)) (by decide) (by decide)) (g := (mkF m 1 #[.val (.ref ca), .val (.int (0 : Int32)), .val (.int (1 : Int32)), .unset, .unset] [(.int (1 : Int32))])) rfl (by rw [hml]; rfl) (argsL := [(.int (1 : Int32))]) (rest := []) (lenOf pd__I__B rfl) rfl (by show 2 * 0 + _ ≤ _; exact Nat.le_of_eq rfl) (hb hby djdk52m14_1) (fun _ _ => ⟨rfl, e0, (by decide : 0 + 1 ≤ _), (by decide : 0 + 2 ≤ _)⟩)
  dsimp only [Pt.U, Pt.locs, Pt.cells, Pt.slots] at X141 l141 y141 z141 st141 hQ141
  subst l141 y141 z141
  obtain ⟨t_141, kt_141, rfl, NQ141, K141, pq141_0, fq141_0⟩ := hQ141
  have N142 := Fr.app N0 NQ141
  have ne143 : ca ≠ t_141 := Nat.ne_of_lt (Nat.lt_of_lt_of_le f3.lt pq141_0)
  have ge144 : n0 ≤ t_141 := Nat.le_trans Z0 pq141_0
  have f145 : Arv Z T141.heap ca kc .char (1 : Int32) [(.int cc0)] (.int (0 : Int32)) := f3.keep K141 nin0
  have Old146 := Old0.keep K141 all0
  have Kp147 : Keep h0 T141.heap [] := K00.trans K141 all0
  have Z148 := Nat.le_trans Z0 K141.1
  refine Rch.st (fun _ k => st141 _ k) ?_
  show Rch p e below T141 (mkF m 4 #[.val (.ref ca), .val (.int (0 : Int32)), .val (.int (1 : Int32)), .unset, .unset] [(.ref t_141)]) _
  refine w_astoreN (pc' := 5) (l' := #[.val (.ref ca), .val (.int (0 : Int32)), .val (.int (1 : Int32)), .val (.ref t_141), .unset]) X141 hx hby djdk52m14_4 rfl rfl rfl ?_
  refine w_iconst (pc' := 6) (v := 0) X141 hx hby djdk52m14_5 rfl rfl ?_
  refine w_istore (pc' := 8) (l' := #[.val (.ref ca), .val (.int (0 : Int32)), .val (.int (1 : Int32)), .val (.ref t_141), .val (.int (0 : Int32))]) X141 hx hby djdk52m14_6 rfl rfl ?_
  refine w_iload (pc' := 10) X141 hx hby djdk52m14_8 rfl rfl ?_
  refine w_iloadN (pc' := 11) X141 hx hby djdk52m14_10 rfl rfl ?_
  refine w_icmpNo (pc' := 14) X141 hx hby djdk52m14_11 (XT.ii_ge_f (by decide)) rfl ?_
  refine w_aloadN (pc' := 15) X141 hx hby djdk52m14_14 rfl rfl rfl ?_
  refine w_iload (pc' := 17) X141 hx hby djdk52m14_15 rfl rfl ?_
  refine w_aloadN (pc' := 18) X141 hx hby djdk52m14_17 rfl rfl rfl ?_
  refine w_iloadN (pc' := 19) X141 hx hby djdk52m14_18 rfl rfl ?_
  refine Rch.st (fun _ k => own_ldC X141 hx hZ (rfl : T141.heap = T141.heap) f145 (j := (0 : Int32)) ⟨by decide, by decide⟩ (by rfl) rfl rfl (hb hby djdk52m14_19) k) ?_
  show Rch p e below T141 (mkF m 20 #[.val (.ref ca), .val (.int (0 : Int32)), .val (.int (1 : Int32)), .val (.ref t_141), .val (.int (0 : Int32))] [(.int cc0), (.int (0 : Int32)), (.ref t_141)]) _
  obtain ⟨_, _, ⟨T149, L149, k149, n149⟩, -, X149, ⟨Lc149, hQ149, l149, y149, z149⟩, st149⟩ := Jvm.LawKit.callS X141 hx (y := (⟨"java/lang/StringUTF16", "putChar", "([BII)V"⟩ : MethodName)) hown (mvT hZ (hw _ (List.mem_of_getElem? (i := 74) rfl))) (mvT hZ (hw _ (List.mem_of_getElem? (i := 75) rfl))) (mvT hZ (hw _ (List.mem_of_getElem? (i := 52) rfl))) (mvT hZ (hw _ (List.mem_of_getElem? (i := 76) rfl))) (by decide) (backOf (W := 0) (rm_put_0 l Z a0 hw [] t_141 kt_141 (2 : Int32) ([(.int (0 : Int32)), (.int (0 : Int32))]) (.int (0 : Int32)) cc0 T141.heap n0 Z148 (SA) (SH) (SL) fq141_0 (ge144) (by decide) (by decide) (by decide : 1 < 2) Old146) hZ (hw _ (List.mem_of_getElem? (i := 76) rfl)) (hw _ (List.mem_of_getElem? (i := 52) rfl)) (by decide) (by decide)) (g := (mkF m 20 #[.val (.ref ca), .val (.int (0 : Int32)), .val (.int (1 : Int32)), .val (.ref t_141), .val (.int (0 : Int32))] [(.int cc0), (.int (0 : Int32)), (.ref t_141)])) rfl (by rw [hml]; rfl) (argsL := [(.ref t_141), (.int (0 : Int32)), (.int cc0)]) (rest := []) (lenOf pd___BII_V rfl) rfl (by show 2 * 0 + _ ≤ _; exact Nat.le_of_eq rfl) (hb hby djdk52m14_20) (fun _ _ => ⟨rfl, (rfl : T141.heap = T141.heap), (by decide : 1 + 0 ≤ _), (by decide : 2 + 0 ≤ _)⟩)
  dsimp only [Pt.U, Pt.locs, Pt.cells, Pt.slots] at X149 l149 y149 z149 st149 hQ149
  subst l149 y149 z149
  obtain ⟨rfl, NQ149, K149, fq149_0⟩ := hQ149
  have N150 := Fr.app N142 NQ149
  have f151 : Arv Z T149.heap ca kc .char (1 : Int32) [(.int cc0)] (.int (0 : Int32)) := f145.keep K149 (ninS ne143 nin0)
  have Old152 := Old146.keep K149 (allS ge144 all0)
  have Kp153 : Keep h0 T149.heap [] := Kp147.trans K149 (allS (Or.inr (Nat.le_trans K00.1 pq141_0)) all0)
  have Z154 := Nat.le_trans Z148 K149.1
  refine Rch.st (fun _ k => st149 _ k) ?_
  show Rch p e below T149 (mkF m 23 #[.val (.ref ca), .val (.int (0 : Int32)), .val (.int (1 : Int32)), .val (.ref t_141), .val (.int (0 : Int32))] []) _
  have f155 : Arv Z T149.heap t_141 kt_141 .byte (2 : Int32) [(.int (own_lo cc0)), (.int (own_hi cc0))] (.int (0 : Int32)) := fq149_0
  refine w_iinc (pc' := 26) (w := (1 : Int32)) (l' := #[.val (.ref ca), .val (.int (1 : Int32)), .val (.int (1 : Int32)), .val (.ref t_141), .val (.int (0 : Int32))]) X149 hx hby djdk52m14_23 rfl (by decide) rfl rfl ?_
  refine w_iinc (pc' := 29) (w := (1 : Int32)) (l' := #[.val (.ref ca), .val (.int (1 : Int32)), .val (.int (1 : Int32)), .val (.ref t_141), .val (.int (1 : Int32))]) X149 hx hby djdk52m14_26 rfl (by decide) rfl rfl ?_
  refine w_goto (pc' := 8) X149 hx hby djdk52m14_29 (by decide) ?_
  refine w_iload (pc' := 10) X149 hx hby djdk52m14_8 rfl rfl ?_
  refine w_iloadN (pc' := 11) X149 hx hby djdk52m14_10 rfl rfl ?_
  refine w_icmpYes (pc' := 32) X149 hx hby djdk52m14_11 (XT.ii_ge_t (by decide)) (by decide) ?_
  refine w_aloadN (pc' := 33) X149 hx hby djdk52m14_32 rfl rfl rfl ?_
  exact Rch.retV X149 hx Bd.returns rfl (Or.inr (Or.inr (Or.inr (Or.inr ⟨rfl, rfl, rfl⟩)))) (hb hby djdk52m14_33) (by rw [(rfl : T149.heap = T149.heap)]; exact ⟨t_141, kt_141, rfl, N150, Kp153, (Nat.le_trans K00.1 pq141_0), f155⟩) (by decide) (by decide)

theorem ef_rm_cmp5_1_0 (m : MethodId) (ca : Addr) (kc : ClassId) (bd : Addr) (kd : ClassId) (cc0 : Int32)  : entryFrame m #[(.ref ca), (.int (0 : Int32)), (.ref bd), (.int (0 : Int32)), (.int (1 : Int32))] 7 = mkF m 0 #[.val (.ref ca), .val (.int (0 : Int32)), .val (.ref bd), .val (.int (0 : Int32)), .val (.int (1 : Int32)), .unset, .unset] [] := by  first | (simp [entryFrame, mkF, argsToLocals, Value.category, maxLocals]; done) | rfl
def Q_rm_cmp5_1_0 (Z : State) (ca : Addr) (kc : ClassId) (bd : Addr) (kd : ClassId) (cc0 : Int32) (h0 : Heap) (n0 : Nat) (v : Option Value) (h : Heap) (L : List Loc) : Prop := (v = some (.int (0 : Int32))) ∧ (Fr n0 L) ∧ (Keep h0 h [bd])
set_option maxRecDepth 65536 in
set_option maxHeartbeats 40000000 in
theorem rm_cmp5_1_0 (l : Launch) (Z : State) (a0 : Array Value) (hw : ∀ d ∈ tables_1, d.before a0 Z = true) (ws : List Jvm.Cond) (ca : Addr) (kc : ClassId) (bd : Addr) (kd : ClassId) (cc0 : Int32) (h0 : Heap) (n0 : Nat) (Z0 : n0 ≤ h0.size) (f0 : Arv Z h0 ca kc .char (1 : Int32) [(.int cc0)] (.int (0 : Int32))) (f1 : Arv Z h0 bd kd .byte (1 : Int32) [(.int (0 : Int32))] (.int (0 : Int32))) (gd : n0 ≤ bd) (ncd : ca ≠ bd) (hx0 : (255 : Int32) < cc0) :
    MetFree l (⟨"java/lang/StringUTF16", "compress", "([CI[BII)I"⟩ : MethodName) (head1 (Jvm.Cond.code (⟨"java/lang/StringUTF16", "compress", "([CI[BII)I"⟩ : MethodName) jdk_52_method_21_code 7 (some .int) :: ws) ({ frames := 0, cells := 0, slots := 0, locals := 0 } : Room)) (fun a U => a = #[(.ref ca), (.int (0 : Int32)), (.ref bd), (.int (0 : Int32)), (.int (1 : Int32))] ∧ Z.Warmed39 U.vm ∧ U.heap = h0) (fun _ _ _ _ _ => True) (fun _ U o U' => ∃ v L, o = .returned v ∧ Q_rm_cmp5_1_0 Z ca kc bd kd cc0 h0 n0 v U'.heap L ∧ FrameEnd U o U' L ({ frames := 0, cells := 0, slots := 0, locals := 0 } : Room).cells ({ frames := 0, cells := 0, slots := 0, locals := 0 } : Room).slots) := by
  refine MetFree.of_bodySF (plainFor_of_name pn_java_lang_StringUTF16) hisR ?_
  intro p e s m args below meth c s₁ Bd hml0 hP hK
  obtain ⟨rfl, hZ, hh⟩ := hP
  have hx := Bd.exec
  have hby := Bd.bytes
  have hml : c.maxLocals = 7 := hml0
  have hown : s.vm.findClass "java/lang/StringUTF16" = some m.cls := findClass_of_methodNamed Bd.named
  have hnm := (name_of_methodNamed Bd.named Bd.method).1
  have X0 : Stand p l e ({ frames := 0, cells := 0, slots := 0, locals := 0 } : Room) s m #[(.ref ca), (.int (0 : Int32)), (.ref bd), (.int (0 : Int32)), (.int (1 : Int32))] below meth c s₁ [] 0 0 := Stand.of_body Bd
  have e0 : s₁.heap = h0 := by rw [← hh, Bd.state]; rfl
  have N0 := Fr.nil n0
  have K00 : Keep h0 h0 [bd] := Keep.refl _ _
  have hlk0 : meth.locks = false := by first | assumption | exact BodyLoose.notSynchronized (by assumption) | exact Body.notSynchronized (by assumption)
  show Rch p e below s₁ (entryFrame m #[(.ref ca), (.int (0 : Int32)), (.ref bd), (.int (0 : Int32)), (.int (1 : Int32))] 7) (FinP s (Q_rm_cmp5_1_0 Z ca kc bd kd cc0 h0 n0) 0 0)
  refine Rch.cast (ef_rm_cmp5_1_0 m ca kc bd kd cc0) ?_
  show Rch p e below s₁ (mkF m 0 #[.val (.ref ca), .val (.int (0 : Int32)), .val (.ref bd), .val (.int (0 : Int32)), .val (.int (1 : Int32)), .unset, .unset] []) _
  refine w_iconst (pc' := 1) (v := 0) X0 hx hby djdk52m21_0 rfl rfl ?_
  refine w_istore (pc' := 3) (l' := #[.val (.ref ca), .val (.int (0 : Int32)), .val (.ref bd), .val (.int (0 : Int32)), .val (.int (1 : Int32)), .val (.int (0 : Int32)), .unset]) X0 hx hby djdk52m21_1 rfl rfl ?_
  refine w_iload (pc' := 5) X0 hx hby djdk52m21_3 rfl rfl ?_
  refine w_iload (pc' := 7) X0 hx hby djdk52m21_5 rfl rfl ?_
  refine w_icmpNo (pc' := 10) X0 hx hby djdk52m21_7 (XT.ii_ge_f (by decide)) rfl ?_
  refine w_aloadN (pc' := 11) X0 hx hby djdk52m21_10 rfl rfl rfl ?_
  refine w_iloadN (pc' := 12) X0 hx hby djdk52m21_11 rfl rfl ?_
  refine Rch.st (fun _ k => own_ldC X0 hx hZ e0 f0 (j := (0 : Int32)) ⟨by decide, by decide⟩ (by rfl) rfl rfl (hb hby djdk52m21_12) k) ?_
  show Rch p e below s₁ (mkF m 13 #[.val (.ref ca), .val (.int (0 : Int32)), .val (.ref bd), .val (.int (0 : Int32)), .val (.int (1 : Int32)), .val (.int (0 : Int32)), .unset] [(.int cc0)]) _
  refine w_istore (pc' := 15) (l' := #[.val (.ref ca), .val (.int (0 : Int32)), .val (.ref bd), .val (.int (0 : Int32)), .val (.int (1 : Int32)), .val (.int (0 : Int32)), .val (.int cc0)]) X0 hx hby djdk52m21_13 rfl rfl ?_
  refine w_iload (pc' := 17) X0 hx hby djdk52m21_15 rfl rfl ?_
  refine w_sipush (pc' := 20) (v := 255) X0 hx hby djdk52m21_17 rfl rfl ?_
  refine w_icmpNo (pc' := 23) X0 hx hby djdk52m21_20 (XT.ii_le_f (hx0)) rfl ?_
  refine w_iload (pc' := 25) X0 hx hby djdk52m21_23 rfl rfl ?_
  exact Rch.retV X0 hx Bd.returns rfl (Or.inl ⟨rfl, by simp, _, rfl⟩) (hb hby djdk52m21_25) (by rw [e0]; exact ⟨rfl, N0, K00⟩) (by decide) (by decide)

theorem ef_rm_cmp3_1_0 (m : MethodId) (ca : Addr) (kc : ClassId) (cc0 : Int32)  : entryFrame m #[(.ref ca), (.int (0 : Int32)), (.int (1 : Int32))] 6 = mkF m 0 #[.val (.ref ca), .val (.int (0 : Int32)), .val (.int (1 : Int32)), .unset, .unset, .unset] [] := by  first | (simp [entryFrame, mkF, argsToLocals, Value.category, maxLocals]; done) | rfl
def Q_rm_cmp3_1_0 (Z : State) (ca : Addr) (kc : ClassId) (cc0 : Int32) (h0 : Heap) (n0 : Nat) (v : Option Value) (h : Heap) (L : List Loc) : Prop := ∃ (t : Addr) (kt : ClassId), (v = some (.ref t)) ∧ (Fr n0 L) ∧ (Keep h0 h []) ∧ (h0.size ≤ t) ∧ (Arv Z h t kt .byte (2 : Int32) [(.int (own_lo cc0)), (.int (own_hi cc0))] (.int (0 : Int32)))
theorem pd___BI_C : parseMethodDescriptor "([BI)C" = some ⟨[(.array .byte), .int], (some .char)⟩ := by decide +kernel
set_option maxRecDepth 65536 in
set_option maxHeartbeats 40000000 in
theorem rm_cmp3_1_0 (l : Launch) (Z : State) (a0 : Array Value) (hw : ∀ d ∈ tables_1, d.before a0 Z = true) (ws : List Jvm.Cond) (ca : Addr) (kc : ClassId) (cc0 : Int32) (h0 : Heap) (n0 : Nat) (Z0 : n0 ≤ h0.size) (SA : Sta Z Z.heap "java/lang/StringUTF16" "$assertionsDisabled" "Z" (.int 1)) (SH : Sta Z Z.heap "java/lang/StringUTF16" "HI_BYTE_SHIFT" "I" (.int 0)) (SL : Sta Z Z.heap "java/lang/StringUTF16" "LO_BYTE_SHIFT" "I" (.int 8)) (f3 : Arv Z h0 ca kc .char (1 : Int32) [(.int cc0)] (.int (0 : Int32))) (hx0 : (255 : Int32) < cc0) (hn0 : ¬ cc0 < 0) (hm0 : ¬ (65535 : Int32) < cc0) (Old0 : OldL Z n0 h0) :
    MetFree l (⟨"java/lang/StringUTF16", "compress", "([CII)[B"⟩ : MethodName) (head1 (Jvm.Cond.code (⟨"java/lang/StringUTF16", "compress", "([CII)[B"⟩ : MethodName) jdk_52_method_16_code 6 (some (.array .byte)) :: ws) ({ frames := 3, cells := 2, slots := 3, locals := 40 } : Room)) (fun a U => a = #[(.ref ca), (.int (0 : Int32)), (.int (1 : Int32))] ∧ Z.Warmed39 U.vm ∧ U.heap = h0) (fun _ _ _ _ _ => True) (fun _ U o U' => ∃ v L, o = .returned v ∧ Q_rm_cmp3_1_0 Z ca kc cc0 h0 n0 v U'.heap L ∧ FrameEnd U o U' L ({ frames := 3, cells := 2, slots := 3, locals := 40 } : Room).cells ({ frames := 3, cells := 2, slots := 3, locals := 40 } : Room).slots) := by
  refine MetFree.of_bodySF (plainFor_of_name pn_java_lang_StringUTF16) hisR ?_
  intro p e s m args below meth c s₁ Bd hml0 hP hK
  obtain ⟨rfl, hZ, hh⟩ := hP
  have hx := Bd.exec
  have hby := Bd.bytes
  have hml : c.maxLocals = 6 := hml0
  have hown : s.vm.findClass "java/lang/StringUTF16" = some m.cls := findClass_of_methodNamed Bd.named
  have hnm := (name_of_methodNamed Bd.named Bd.method).1
  have X0 : Stand p l e ({ frames := 3, cells := 2, slots := 3, locals := 40 } : Room) s m #[(.ref ca), (.int (0 : Int32)), (.int (1 : Int32))] below meth c s₁ [] 0 0 := Stand.of_body Bd
  have e0 : s₁.heap = h0 := by rw [← hh, Bd.state]; rfl
  have N0 := Fr.nil n0
  have K00 : Keep h0 h0 [] := Keep.refl _ _
  have hlk0 : meth.locks = false := by first | assumption | exact BodyLoose.notSynchronized (by assumption) | exact Body.notSynchronized (by assumption)
  show Rch p e below s₁ (entryFrame m #[(.ref ca), (.int (0 : Int32)), (.int (1 : Int32))] 6) (FinP s (Q_rm_cmp3_1_0 Z ca kc cc0 h0 n0) 2 3)
  refine Rch.cast (ef_rm_cmp3_1_0 m ca kc cc0) ?_
  show Rch p e below s₁ (mkF m 0 #[.val (.ref ca), .val (.int (0 : Int32)), .val (.int (1 : Int32)), .unset, .unset, .unset] []) _
  refine w_iloadN (pc' := 1) X0 hx hby djdk52m16_0 rfl rfl ?_
  obtain ⟨T156, h156, kc156, X156, e156, E156, A156, st156⟩ := newP X0 hx hZ (hw _ (List.mem_of_getElem? (i := 16) rfl)) e0 (g := (mkF m 1 #[.val (.ref ca), .val (.int (0 : Int32)), .val (.int (1 : Int32)), .unset, .unset, .unset] [(.int (1 : Int32))])) rfl (hb hby djdk52m16_1) rfl (by decide : ¬ ((1 : Int32) < (0 : Int32))) (cap := 1) (by decide : (1 : Int32).toNatClampNeg ≤ 1) (by decide) (by decide) (by decide)
  obtain ⟨a156, g156⟩ : ∃ z, z = h0.size := ⟨_, rfl⟩
  rw [← g156] at A156 st156
  have ne157 : ca ≠ a156 := by rw [g156]; exact Nat.ne_of_lt f3.lt
  have ge158 : n0 ≤ a156 := Nat.le_trans Z0 (Nat.le_of_eq g156.symm)
  have f160 : Arv Z h156 ca kc .char (1 : Int32) [(.int cc0)] (.int (0 : Int32)) := f3.ext E156
  have Old161 := Old0.ext E156
  have Z162 := Nat.le_trans Z0 E156.1
  have Kp163 : Keep h0 h156 [] := K00.ext E156
  have f164 : Arv Z h156 a156 kc156 .byte (1 : Int32) [(.int (0 : Int32))] (.int (0 : Int32)) := (Arv.new A156 (by decide : ¬ ((1 : Int32) < (0 : Int32)))).pad (pad_rep [] (.int (0 : Int32)) 1)
  refine Rch.st (fun _ k => st156 _ k) ?_
  show Rch p e below T156 (mkF m 3 #[.val (.ref ca), .val (.int (0 : Int32)), .val (.int (1 : Int32)), .unset, .unset, .unset] [(.ref a156)]) _
  refine w_astoreN (pc' := 4) (l' := #[.val (.ref ca), .val (.int (0 : Int32)), .val (.int (1 : Int32)), .val (.ref a156), .unset, .unset]) X156 hx hby djdk52m16_3 rfl rfl rfl ?_
  refine w_aloadN (pc' := 5) X156 hx hby djdk52m16_4 rfl rfl rfl ?_
  refine w_iloadN (pc' := 6) X156 hx hby djdk52m16_5 rfl rfl ?_
  refine w_aloadN (pc' := 7) X156 hx hby djdk52m16_6 rfl rfl rfl ?_
  refine w_iconst (pc' := 8) (v := 0) X156 hx hby djdk52m16_7 rfl rfl ?_
  refine w_iloadN (pc' := 9) X156 hx hby djdk52m16_8 rfl rfl ?_
  obtain ⟨_, _, ⟨T165, L165, k165, n165⟩, -, X165, ⟨Lc165, hQ165, l165, y165, z165⟩, st165⟩ := Jvm.LawKit.callS X156 hx (y := (⟨"java/lang/StringUTF16", "compress", "([CI[BII)I"⟩ : MethodName)) hown (mvT hZ (hw _ (List.mem_of_getElem? (i := 54) rfl))) (mvT hZ (hw _ (List.mem_of_getElem? (i := 55) rfl))) (mvT hZ (hw _ (List.mem_of_getElem? (i := 52) rfl))) (mvT hZ (hw _ (List.mem_of_getElem? (i := 56) rfl))) (by decide) (backOf (W := 0) (rm_cmp5_1_0 l Z a0 hw [] ca kc a156 kc156 cc0 h156 n0 Z162 f160 f164 (ge158) (ne157) (hx0)) hZ (hw _ (List.mem_of_getElem? (i := 56) rfl)) (hw _ (List.mem_of_getElem? (i := 52) rfl)) (by decide) (by decide)) (g := (mkF m 9 #[.val (.ref ca), .val (.int (0 : Int32)), .val (.int (1 : Int32)), .val (.ref a156), .unset, .unset] [(.int (1 : Int32)), (.int (0 : Int32)), (.ref a156), (.int (0 : Int32)), (.ref ca)])) rfl (by rw [hml]; rfl) (argsL := [(.ref ca), (.int (0 : Int32)), (.ref a156), (.int (0 : Int32)), (.int (1 : Int32))]) (rest := []) (lenOf pd___CI_BII_I rfl) rfl (by show 2 * 0 + _ ≤ _; exact Nat.le_of_eq rfl) (hb hby djdk52m16_9) (fun _ _ => ⟨rfl, e156, (by decide : 1 + 0 ≤ _), (by decide : 1 + 0 ≤ _)⟩)
  dsimp only [Pt.U, Pt.locs, Pt.cells, Pt.slots] at X165 l165 y165 z165 st165 hQ165
  subst l165 y165 z165
  obtain ⟨rfl, NQ165, K165⟩ := hQ165
  have N166 := Fr.app N0 NQ165
  have f167 : Arv Z T165.heap ca kc .char (1 : Int32) [(.int cc0)] (.int (0 : Int32)) := f160.keep K165 (ninS ne157 nin0)
  have Old168 := Old161.keep K165 (allS ge158 all0)
  have Kp169 : Keep h0 T165.heap [] := Kp163.trans K165 (allS (Or.inr (Nat.le_trans K00.1 (Nat.le_of_eq g156.symm))) all0)
  have Z170 := Nat.le_trans Z162 K165.1
  refine Rch.st (fun _ k => st165 _ k) ?_
  show Rch p e below T165 (mkF m 12 #[.val (.ref ca), .val (.int (0 : Int32)), .val (.int (1 : Int32)), .val (.ref a156), .unset, .unset] [(.int (0 : Int32))]) _
  refine w_istore (pc' := 14) (l' := #[.val (.ref ca), .val (.int (0 : Int32)), .val (.int (1 : Int32)), .val (.ref a156), .val (.int (0 : Int32)), .unset]) X165 hx hby djdk52m16_12 rfl rfl ?_
  refine w_iload (pc' := 16) X165 hx hby djdk52m16_14 rfl rfl ?_
  refine w_iloadN (pc' := 17) X165 hx hby djdk52m16_16 rfl rfl ?_
  refine w_icmpNo (pc' := 20) X165 hx hby djdk52m16_17 (XT.ii_eq_f (by decide)) rfl ?_
  refine w_aloadN (pc' := 21) X165 hx hby djdk52m16_20 rfl rfl rfl ?_
  refine w_iloadN (pc' := 22) X165 hx hby djdk52m16_21 rfl rfl ?_
  refine w_iloadN (pc' := 23) X165 hx hby djdk52m16_22 rfl rfl ?_
  obtain ⟨_, _, ⟨T171, L171, k171, n171⟩, -, X171, ⟨Lc171, hQ171, l171, y171, z171⟩, st171⟩ := Jvm.LawKit.callS X165 hx (y := (⟨"java/lang/StringUTF16", "toBytes", "([CII)[B"⟩ : MethodName)) hown (mvT hZ (hw _ (List.mem_of_getElem? (i := 64) rfl))) (mvT hZ (hw _ (List.mem_of_getElem? (i := 65) rfl))) (mvT hZ (hw _ (List.mem_of_getElem? (i := 52) rfl))) (mvT hZ (hw _ (List.mem_of_getElem? (i := 66) rfl))) (by decide) (backOf (W := 0) (rm_tob_1 l Z a0 hw [] ca kc cc0 T165.heap n0 Z170 (SA) (SH) (SL) f167 Old168) hZ (hw _ (List.mem_of_getElem? (i := 66) rfl)) (hw _ (List.mem_of_getElem? (i := 52) rfl)) (by decide) (by decide)) (g := (mkF m 23 #[.val (.ref ca), .val (.int (0 : Int32)), .val (.int (1 : Int32)), .val (.ref a156), .val (.int (0 : Int32)), .unset] [(.int (1 : Int32)), (.int (0 : Int32)), (.ref ca)])) rfl (by rw [hml]; rfl) (argsL := [(.ref ca), (.int (0 : Int32)), (.int (1 : Int32))]) (rest := []) (lenOf pd___CII__B rfl) rfl (by show 2 * 0 + _ ≤ _; exact Nat.le_of_eq rfl) (hb hby djdk52m16_23) (fun _ _ => ⟨rfl, (rfl : T165.heap = T165.heap), (by decide : 1 + 1 ≤ _), (by decide : 1 + 2 ≤ _)⟩)
  dsimp only [Pt.U, Pt.locs, Pt.cells, Pt.slots] at X171 l171 y171 z171 st171 hQ171
  subst l171 y171 z171
  obtain ⟨t_171, kt_171, rfl, NQ171, K171, pq171_0, fq171_0⟩ := hQ171
  have N172 := Fr.app N166 NQ171
  have ne173 : ca ≠ t_171 := Nat.ne_of_lt (Nat.lt_of_lt_of_le f167.lt pq171_0)
  have ge174 : n0 ≤ t_171 := Nat.le_trans Z170 pq171_0
  have f175 : Arv Z T171.heap ca kc .char (1 : Int32) [(.int cc0)] (.int (0 : Int32)) := f167.keep K171 nin0
  have Old176 := Old168.keep K171 all0
  have Kp177 : Keep h0 T171.heap [] := Kp169.trans K171 all0
  have Z178 := Nat.le_trans Z170 K171.1
  refine Rch.st (fun _ k => st171 _ k) ?_
  show Rch p e below T171 (mkF m 26 #[.val (.ref ca), .val (.int (0 : Int32)), .val (.int (1 : Int32)), .val (.ref a156), .val (.int (0 : Int32)), .unset] [(.ref t_171)]) _
  refine w_astore (pc' := 28) (l' := #[.val (.ref ca), .val (.int (0 : Int32)), .val (.int (1 : Int32)), .val (.ref a156), .val (.int (0 : Int32)), .val (.ref t_171)]) X171 hx hby djdk52m16_26 rfl rfl rfl ?_
  refine w_aload (pc' := 30) X171 hx hby djdk52m16_28 rfl rfl rfl ?_
  refine w_iload (pc' := 32) X171 hx hby djdk52m16_30 rfl rfl ?_
  obtain ⟨_, _, ⟨T179, L179, k179, n179⟩, -, X179, ⟨Lc179, hQ179, l179, y179, z179⟩, st179⟩ := Jvm.LawKit.callS X171 hx (y := (⟨"java/lang/StringUTF16", "getChar", "([BI)C"⟩ : MethodName)) hown (mvT hZ (hw _ (List.mem_of_getElem? (i := 80) rfl))) (mvT hZ (hw _ (List.mem_of_getElem? (i := 81) rfl))) (mvT hZ (hw _ (List.mem_of_getElem? (i := 52) rfl))) (mvT hZ (hw _ (List.mem_of_getElem? (i := 82) rfl))) (by decide) (backOf (W := 0) (rm_get_0 l Z a0 hw [] t_171 kt_171 (2 : Int32) ([(.int (own_lo cc0)), (.int (own_hi cc0))]) (.int (0 : Int32)) (own_lo cc0) (own_hi cc0) T171.heap n0 Z178 (SA) (SH) (SL) fq171_0 (by decide) (by decide) (rfl) (rfl) Old176) hZ (hw _ (List.mem_of_getElem? (i := 82) rfl)) (hw _ (List.mem_of_getElem? (i := 52) rfl)) (by decide) (by decide)) (g := (mkF m 32 #[.val (.ref ca), .val (.int (0 : Int32)), .val (.int (1 : Int32)), .val (.ref a156), .val (.int (0 : Int32)), .val (.ref t_171)] [(.int (0 : Int32)), (.ref t_171)])) rfl (by rw [hml]; rfl) (argsL := [(.ref t_171), (.int (0 : Int32))]) (rest := []) (lenOf pd___BI_C rfl) rfl (by show 2 * 0 + _ ≤ _; exact Nat.le_of_eq rfl) (hb hby djdk52m16_32) (fun _ _ => ⟨rfl, (rfl : T171.heap = T171.heap), (by decide : 2 + 0 ≤ _), (by decide : 3 + 0 ≤ _)⟩)
  dsimp only [Pt.U, Pt.locs, Pt.cells, Pt.slots] at X179 l179 y179 z179 st179 hQ179
  subst l179 y179 z179
  obtain ⟨rfl, NQ179, K179⟩ := hQ179
  have N180 := Fr.app N172 NQ179
  refine Rch.st (fun _ k => st179 _ k) ?_
  show Rch p e below T179 (mkF m 35 #[.val (.ref ca), .val (.int (0 : Int32)), .val (.int (1 : Int32)), .val (.ref a156), .val (.int (0 : Int32)), .val (.ref t_171)] [(.int (own_gc (own_lo cc0) (own_hi cc0)))]) _
  have r181 : (own_gc (own_lo cc0) (own_hi cc0)) = cc0 := own_getput hn0 hm0
  rw [r181]
  show Rch p e below T179 (mkF m 35 #[.val (.ref ca), .val (.int (0 : Int32)), .val (.int (1 : Int32)), .val (.ref a156), .val (.int (0 : Int32)), .val (.ref t_171)] [(.int cc0)]) _
  refine w_sipush (pc' := 38) (v := 255) X179 hx hby djdk52m16_35 rfl rfl ?_
  refine w_icmpYes (pc' := 54) X179 hx hby djdk52m16_38 (XT.ii_gt_t (hx0)) (by decide) ?_
  refine w_aload (pc' := 56) X179 hx hby djdk52m16_54 rfl rfl rfl ?_
  exact Rch.retV X179 hx Bd.returns rfl (Or.inr (Or.inr (Or.inr (Or.inr ⟨rfl, rfl, rfl⟩)))) (hb hby djdk52m16_56) (by rw [K179]; exact ⟨t_171, kt_171, rfl, N180, Kp177, (Nat.le_trans Kp169.1 pq171_0), fq171_0⟩) (by decide) (by decide)

theorem ef_rm_init4_1_0 (m : MethodId) (G1 : Int32) (a5 : Addr) (ca : Addr) (kc : ClassId) (cc0 : Int32)  : entryFrame m #[(.ref a5), (.ref ca), (.int (0 : Int32)), (.int (1 : Int32)), .null] 6 = mkF m 0 #[.val (.ref a5), .val (.ref ca), .val (.int (0 : Int32)), .val (.int (1 : Int32)), .val .null, .unset] [] := by  first | (simp [entryFrame, mkF, argsToLocals, Value.category, maxLocals]; done) | rfl
def Q_rm_init4_1_0 (Z : State) (G1 : Int32) (a5 : Addr) (ca : Addr) (kc : ClassId) (cc0 : Int32) (h0 : Heap) (n0 : Nat) (v : Option Value) (h : Heap) (L : List Loc) : Prop := ∃ (t : Addr) (kt : ClassId), (v = none) ∧ (Fr n0 L) ∧ (Keep h0 h [a5]) ∧ (h0.size ≤ t) ∧ (Fld Z h a5 "java/lang/String" "coder" "B" (.int (1 : Int32))) ∧ (Fld Z h a5 "java/lang/String" "value" "[B" (.ref t)) ∧ (Arv Z h t kt .byte (2 : Int32) [(.int (own_lo cc0)), (.int (own_hi cc0))] (.int (0 : Int32)))
set_option maxRecDepth 65536 in
set_option maxHeartbeats 40000000 in
theorem rm_init4_1_0 (l : Launch) (Z : State) (a0 : Array Value) (hw : ∀ d ∈ tables_1, d.before a0 Z = true) (ws : List Jvm.Cond) (G1 : Int32) (a5 : Addr) (ca : Addr) (kc : ClassId) (cc0 : Int32) (h0 : Heap) (n0 : Nat) (Z0 : n0 ≤ h0.size) (O2 : Sta Z Z.heap "java/lang/String" "COMPACT_STRINGS" "Z" (.int G1)) (P5 : ¬ G1 = 0) (SA : Sta Z Z.heap "java/lang/StringUTF16" "$assertionsDisabled" "Z" (.int 1)) (SH : Sta Z Z.heap "java/lang/StringUTF16" "HI_BYTE_SHIFT" "I" (.int 0)) (SL : Sta Z Z.heap "java/lang/StringUTF16" "LO_BYTE_SHIFT" "I" (.int 8)) (f5 : Exa Z h0 a5 "java/lang/String") (f6 : Fld Z h0 a5 "java/lang/String" "coder" "B" (.int (0 : Int32))) (f7 : Fld Z h0 a5 "java/lang/String" "value" "[B" .null) (f8 : Arv Z h0 ca kc .char (1 : Int32) [(.int cc0)] (.int (0 : Int32))) (ga : n0 ≤ a5) (nca : a5 ≠ ca) (hx0 : (255 : Int32) < cc0) (hn0 : ¬ cc0 < 0) (hm0 : ¬ (65535 : Int32) < cc0) (Old0 : OldL Z n0 h0) :
    MetFree l (⟨"java/lang/String", "<init>", "([CIILjava/lang/Void;)V"⟩ : MethodName) (head1 (Jvm.Cond.code (⟨"java/lang/String", "<init>", "([CIILjava/lang/Void;)V"⟩ : MethodName) jdk_42_method_149_code 6 none :: ws) ({ frames := 4, cells := 2, slots := 3, locals := 57 } : Room)) (fun a U => a = #[(.ref a5), (.ref ca), (.int (0 : Int32)), (.int (1 : Int32)), .null] ∧ Z.Warmed39 U.vm ∧ U.heap = h0) (fun _ _ _ _ _ => True) (fun _ U o U' => ∃ v L, o = .returned v ∧ Q_rm_init4_1_0 Z G1 a5 ca kc cc0 h0 n0 v U'.heap L ∧ FrameEnd U o U' L ({ frames := 4, cells := 2, slots := 3, locals := 57 } : Room).cells ({ frames := 4, cells := 2, slots := 3, locals := 57 } : Room).slots) := by
  refine MetFree.of_bodySF (plainFor_of_name pn_java_lang_String) hisR ?_
  intro p e s m args below meth c s₁ Bd hml0 hP hK
  obtain ⟨rfl, hZ, hh⟩ := hP
  have hx := Bd.exec
  have hby := Bd.bytes
  have hml : c.maxLocals = 6 := hml0
  have hown : s.vm.findClass "java/lang/String" = some m.cls := findClass_of_methodNamed Bd.named
  have hnm := (name_of_methodNamed Bd.named Bd.method).1
  have X0 : Stand p l e ({ frames := 4, cells := 2, slots := 3, locals := 57 } : Room) s m #[(.ref a5), (.ref ca), (.int (0 : Int32)), (.int (1 : Int32)), .null] below meth c s₁ [] 0 0 := Stand.of_body Bd
  have e0 : s₁.heap = h0 := by rw [← hh, Bd.state]; rfl
  have N0 := Fr.nil n0
  have K00 : Keep h0 h0 [a5] := Keep.refl _ _
  have hlk0 : meth.locks = false := by first | assumption | exact BodyLoose.notSynchronized (by assumption) | exact Body.notSynchronized (by assumption)
  show Rch p e below s₁ (entryFrame m #[(.ref a5), (.ref ca), (.int (0 : Int32)), (.int (1 : Int32)), .null] 6) (FinP s (Q_rm_init4_1_0 Z G1 a5 ca kc cc0 h0 n0) 2 3)
  refine Rch.cast (ef_rm_init4_1_0 m G1 a5 ca kc cc0) ?_
  show Rch p e below s₁ (mkF m 0 #[.val (.ref a5), .val (.ref ca), .val (.int (0 : Int32)), .val (.int (1 : Int32)), .val .null, .unset] []) _
  refine w_aloadN (pc' := 1) X0 hx hby djdk42m149_0 rfl rfl rfl ?_
  obtain ⟨T182, X182, e182, st182⟩ := initO X0 hx hZ hown (hw _ (List.mem_of_getElem? (i := 12) rfl)) (hw _ (List.mem_of_getElem? (i := 13) rfl)) (hw _ (List.mem_of_getElem? (i := 14) rfl)) e0 (g := (mkF m 1 #[.val (.ref a5), .val (.ref ca), .val (.int (0 : Int32)), .val (.int (1 : Int32)), .val .null, .unset] [(.ref a5)])) rfl (by rw [hml]; rfl) rfl (hb hby djdk42m149_1) (by decide) (W := 0) (by show 2 * 0 + _ ≤ _; exact Nat.le_of_eq rfl) (by decide)
  refine Rch.st (fun _ k => st182 _ k) ?_
  show Rch p e below T182 (mkF m 4 #[.val (.ref a5), .val (.ref ca), .val (.int (0 : Int32)), .val (.int (1 : Int32)), .val .null, .unset] []) _
  refine w_iloadN (pc' := 5) X182 hx hby djdk42m149_4 rfl rfl ?_
  refine w_ifYes (pc' := 27) X182 hx hby djdk42m149_5 (XT.i0_ne_t (by decide)) (by decide) ?_
  obtain ⟨T183, X183, e183, st183⟩ := getS X182 hx hZ hown (host := "") (hw _ (List.mem_of_getElem? (i := 48) rfl)) Via.refl e182 (O2.ext Old0.2) (g := (mkF m 27 #[.val (.ref a5), .val (.ref ca), .val (.int (0 : Int32)), .val (.int (1 : Int32)), .val .null, .unset] [])) rfl (hb hby djdk42m149_27)
  refine Rch.st (fun _ k => st183 _ k) ?_
  show Rch p e below T183 (mkF m 30 #[.val (.ref a5), .val (.ref ca), .val (.int (0 : Int32)), .val (.int (1 : Int32)), .val .null, .unset] [(.int G1)]) _
  refine w_ifNo (pc' := 33) X183 hx hby djdk42m149_30 (XT.i0_eq_f (P5)) rfl ?_
  refine w_aloadN (pc' := 34) X183 hx hby djdk42m149_33 rfl rfl rfl ?_
  refine w_iloadN (pc' := 35) X183 hx hby djdk42m149_34 rfl rfl ?_
  refine w_iloadN (pc' := 36) X183 hx hby djdk42m149_35 rfl rfl ?_
  obtain ⟨_, _, ⟨T184, L184, k184, n184⟩, -, X184, ⟨Lc184, hQ184, l184, y184, z184⟩, st184⟩ := Jvm.LawKit.callS X183 hx (y := (⟨"java/lang/StringUTF16", "compress", "([CII)[B"⟩ : MethodName)) hown (mvT hZ (hw _ (List.mem_of_getElem? (i := 50) rfl))) (mvT hZ (hw _ (List.mem_of_getElem? (i := 51) rfl))) (mvT hZ (hw _ (List.mem_of_getElem? (i := 52) rfl))) (mvT hZ (hw _ (List.mem_of_getElem? (i := 53) rfl))) (by decide) (backOf (W := 0) (rm_cmp3_1_0 l Z a0 hw [] ca kc cc0 h0 n0 Z0 (SA) (SH) (SL) f8 (hx0) (hn0) (hm0) Old0) hZ (hw _ (List.mem_of_getElem? (i := 53) rfl)) (hw _ (List.mem_of_getElem? (i := 52) rfl)) (by decide) (by decide)) (g := (mkF m 36 #[.val (.ref a5), .val (.ref ca), .val (.int (0 : Int32)), .val (.int (1 : Int32)), .val .null, .unset] [(.int (1 : Int32)), (.int (0 : Int32)), (.ref ca)])) rfl (by rw [hml]; rfl) (argsL := [(.ref ca), (.int (0 : Int32)), (.int (1 : Int32))]) (rest := []) (lenOf pd___CII__B rfl) rfl (by show 2 * 0 + _ ≤ _; exact Nat.le_of_eq rfl) (hb hby djdk42m149_36) (fun _ _ => ⟨rfl, e183, (by decide : 0 + 2 ≤ _), (by decide : 0 + 3 ≤ _)⟩)
  dsimp only [Pt.U, Pt.locs, Pt.cells, Pt.slots] at X184 l184 y184 z184 st184 hQ184
  subst l184 y184 z184
  obtain ⟨t_184, kt_184, rfl, NQ184, K184, pq184_0, fq184_0⟩ := hQ184
  have N185 := Fr.app N0 NQ184
  have ne186 : a5 ≠ t_184 := Nat.ne_of_lt (Nat.lt_of_lt_of_le f5.lt pq184_0)
  have ne187 : ca ≠ t_184 := Nat.ne_of_lt (Nat.lt_of_lt_of_le f8.lt pq184_0)
  have ge188 : n0 ≤ t_184 := Nat.le_trans Z0 pq184_0
  have f189 : Exa Z T184.heap a5 "java/lang/String" := f5.keep K184
  have f190 : Fld Z T184.heap a5 "java/lang/String" "coder" "B" (.int (0 : Int32)) := f6.keep K184 nin0
  have f191 : Fld Z T184.heap a5 "java/lang/String" "value" "[B" .null := f7.keep K184 nin0
  have f192 : Arv Z T184.heap ca kc .char (1 : Int32) [(.int cc0)] (.int (0 : Int32)) := f8.keep K184 nin0
  have Old193 := Old0.keep K184 all0
  have Kp194 : Keep h0 T184.heap [a5] := K00.trans K184 all0
  have Z195 := Nat.le_trans Z0 K184.1
  refine Rch.st (fun _ k => st184 _ k) ?_
  show Rch p e below T184 (mkF m 39 #[.val (.ref a5), .val (.ref ca), .val (.int (0 : Int32)), .val (.int (1 : Int32)), .val .null, .unset] [(.ref t_184)]) _
  refine w_astore (pc' := 41) (l' := #[.val (.ref a5), .val (.ref ca), .val (.int (0 : Int32)), .val (.int (1 : Int32)), .val .null, .val (.ref t_184)]) X184 hx hby djdk42m149_39 rfl rfl rfl ?_
  refine w_aloadN (pc' := 42) X184 hx hby djdk42m149_41 rfl rfl rfl ?_
  refine w_aload (pc' := 44) X184 hx hby djdk42m149_42 rfl rfl rfl ?_
  refine w_iloadN (pc' := 45) X184 hx hby djdk42m149_44 rfl rfl ?_
  obtain ⟨_, _, ⟨T196, L196, k196, n196⟩, -, X196, ⟨Lc196, hQ196, l196, y196, z196⟩, st196⟩ := Jvm.LawKit.callS X184 hx (y := (⟨"java/lang/StringUTF16", "coderFromArrayLen", "([BI)B"⟩ : MethodName)) hown (mvT hZ (hw _ (List.mem_of_getElem? (i := 57) rfl))) (mvT hZ (hw _ (List.mem_of_getElem? (i := 58) rfl))) (mvT hZ (hw _ (List.mem_of_getElem? (i := 52) rfl))) (mvT hZ (hw _ (List.mem_of_getElem? (i := 59) rfl))) (by decide) (backOf (W := 1) (rm_cfl l Z a0 hw [] t_184 kt_184 (1 : Int32) (2 : Int32) ([(.int (own_lo cc0)), (.int (own_hi cc0))]) (.int (0 : Int32)) T184.heap n0 Z195 fq184_0) hZ (hw _ (List.mem_of_getElem? (i := 59) rfl)) (hw _ (List.mem_of_getElem? (i := 52) rfl)) (by decide) (by decide)) (g := (mkF m 45 #[.val (.ref a5), .val (.ref ca), .val (.int (0 : Int32)), .val (.int (1 : Int32)), .val .null, .val (.ref t_184)] [(.int (1 : Int32)), (.ref t_184), (.ref a5)])) rfl (by rw [hml]; rfl) (argsL := [(.ref t_184), (.int (1 : Int32))]) (rest := [(.ref a5)]) (lenOf pd___BI_B rfl) rfl (by show 2 * 0 + _ ≤ _; exact Nat.le_of_eq rfl) (hb hby djdk42m149_45) (fun _ _ => ⟨rfl, (rfl : T184.heap = T184.heap), (by decide : 2 + 0 ≤ _), (by decide : 3 + 0 ≤ _)⟩)
  dsimp only [Pt.U, Pt.locs, Pt.cells, Pt.slots] at X196 l196 y196 z196 st196 hQ196
  subst l196 y196 z196
  obtain ⟨rfl, NQ196, K196⟩ := hQ196
  have N197 := Fr.app N185 NQ196
  refine Rch.st (fun _ k => st196 _ k) ?_
  show Rch p e below T196 (mkF m 48 #[.val (.ref a5), .val (.ref ca), .val (.int (0 : Int32)), .val (.int (1 : Int32)), .val .null, .val (.ref t_184)] [(.int ((XT.ushr ((1 : Int32) - (2 : Int32)) (31 : Int32))).toInt8.toInt32), (.ref a5)]) _
  have r198 : ((XT.ushr ((1 : Int32) - (2 : Int32)) (31 : Int32))).toInt8.toInt32 = (1 : Int32) := by decide
  rw [r198]
  show Rch p e below T196 (mkF m 48 #[.val (.ref a5), .val (.ref ca), .val (.int (0 : Int32)), .val (.int (1 : Int32)), .val .null, .val (.ref t_184)] [(.int (1 : Int32)), (.ref a5)]) _
  obtain ⟨T199, h199, X199, e199, W199, st199⟩ := putF X196 hx hZ hown (host := "") (Or.inl (hw _ (List.mem_of_getElem? (i := 22) rfl))) Via.refl K196 f190 f189 (Or.inr ⟨(hw _ (List.mem_of_getElem? (i := 18) rfl)), rfl, hnm⟩) (hw _ (List.mem_of_getElem? (i := 3) rfl)) (ty := .byte) (by decide) rfl rfl (g := (mkF m 48 #[.val (.ref a5), .val (.ref ca), .val (.int (0 : Int32)), .val (.int (1 : Int32)), .val .null, .val (.ref t_184)] [(.int (1 : Int32)), (.ref a5)])) rfl rfl (hb hby djdk42m149_48)
  have N200 := Fr.snoc X199 N197 ga
  have f201 : Exa Z h199 a5 "java/lang/String" := f189.wr W199
  have f202 : Fld Z h199 a5 "java/lang/String" "coder" "B" (.int (1 : Int32)) := f190.same W199
  have f203 : Fld Z h199 a5 "java/lang/String" "value" "[B" .null := f191.other W199 (Or.inr (slot_ne (t := (.array .byte)) (t' := .byte) (Or.inr (hw _ (List.mem_of_getElem? (i := 17) rfl))) (Or.inr (hw _ (List.mem_of_getElem? (i := 18) rfl))) (by decide) (by decide) (by decide)))
  have f204 : Arv Z h199 ca kc .char (1 : Int32) [(.int cc0)] (.int (0 : Int32)) := f192.other W199 (Ne.symm nca)
  have f205 : Arv Z h199 t_184 kt_184 .byte (2 : Int32) [(.int (own_lo cc0)), (.int (own_hi cc0))] (.int (0 : Int32)) := fq184_0.other W199 (Ne.symm ne186)
  have Old206 := Old193.wr W199 ga
  have Z207 := Nat.le_trans Z195 (Keep.of_wr W199).1
  have Kp208 : Keep h0 h199 [a5] := Kp194.wr W199 (Or.inl (List.mem_of_getElem? (i := 0) rfl))
  refine Rch.st (fun _ k => st199 _ k) ?_
  show Rch p e below T199 (mkF m 51 #[.val (.ref a5), .val (.ref ca), .val (.int (0 : Int32)), .val (.int (1 : Int32)), .val .null, .val (.ref t_184)] []) _
  refine w_aloadN (pc' := 52) X199 hx hby djdk42m149_51 rfl rfl rfl ?_
  refine w_aload (pc' := 54) X199 hx hby djdk42m149_52 rfl rfl rfl ?_
  obtain ⟨T209, h209, X209, e209, W209, st209⟩ := putF X199 hx hZ hown (host := "") (Or.inl (hw _ (List.mem_of_getElem? (i := 21) rfl))) Via.refl e199 f203 f201 (Or.inr ⟨(hw _ (List.mem_of_getElem? (i := 17) rfl)), rfl, hnm⟩) (hw _ (List.mem_of_getElem? (i := 3) rfl)) (ty := (.array .byte)) (by decide) rfl rfl (g := (mkF m 54 #[.val (.ref a5), .val (.ref ca), .val (.int (0 : Int32)), .val (.int (1 : Int32)), .val .null, .val (.ref t_184)] [(.ref t_184), (.ref a5)])) rfl rfl (hb hby djdk42m149_54)
  have N210 := Fr.snoc X209 N200 ga
  have f211 : Exa Z h209 a5 "java/lang/String" := f201.wr W209
  have f212 : Fld Z h209 a5 "java/lang/String" "coder" "B" (.int (1 : Int32)) := f202.other W209 (Or.inr (slot_ne (t := .byte) (t' := (.array .byte)) (Or.inr (hw _ (List.mem_of_getElem? (i := 18) rfl))) (Or.inr (hw _ (List.mem_of_getElem? (i := 17) rfl))) (by decide) (by decide) (by decide)))
  have f213 : Fld Z h209 a5 "java/lang/String" "value" "[B" (.ref t_184) := f203.same W209
  have f214 : Arv Z h209 ca kc .char (1 : Int32) [(.int cc0)] (.int (0 : Int32)) := f204.other W209 (Ne.symm nca)
  have f215 : Arv Z h209 t_184 kt_184 .byte (2 : Int32) [(.int (own_lo cc0)), (.int (own_hi cc0))] (.int (0 : Int32)) := f205.other W209 (Ne.symm ne186)
  have Old216 := Old206.wr W209 ga
  have Z217 := Nat.le_trans Z207 (Keep.of_wr W209).1
  have Kp218 : Keep h0 h209 [a5] := Kp208.wr W209 (Or.inl (List.mem_of_getElem? (i := 0) rfl))
  refine Rch.st (fun _ k => st209 _ k) ?_
  show Rch p e below T209 (mkF m 57 #[.val (.ref a5), .val (.ref ca), .val (.int (0 : Int32)), .val (.int (1 : Int32)), .val .null, .val (.ref t_184)] []) _
  exact Rch.ret0 X209 hx Bd.returns (hb hby djdk42m149_57) (by rw [e209]; exact ⟨t_184, kt_184, rfl, N210, Kp218, (Nat.le_trans K00.1 pq184_0), f212, f213, f215⟩) (by decide) (by decide)

theorem ef_rm_init1_1_0 (m : MethodId) (G1 : Int32) (a5 : Addr) (ca : Addr) (kc : ClassId) (cc0 : Int32)  : entryFrame m #[(.ref a5), (.ref ca)] 2 = mkF m 0 #[.val (.ref a5), .val (.ref ca)] [] := by  first | (simp [entryFrame, mkF, argsToLocals, Value.category, maxLocals]; done) | rfl
def Q_rm_init1_1_0 (Z : State) (G1 : Int32) (a5 : Addr) (ca : Addr) (kc : ClassId) (cc0 : Int32) (h0 : Heap) (n0 : Nat) (v : Option Value) (h : Heap) (L : List Loc) : Prop := ∃ (t : Addr) (kt : ClassId), (v = none) ∧ (Fr n0 L) ∧ (Keep h0 h [a5]) ∧ (h0.size ≤ t) ∧ (Fld Z h a5 "java/lang/String" "coder" "B" (.int (1 : Int32))) ∧ (Fld Z h a5 "java/lang/String" "value" "[B" (.ref t)) ∧ (Arv Z h t kt .byte (2 : Int32) [(.int (own_lo cc0)), (.int (own_hi cc0))] (.int (0 : Int32)))
set_option maxRecDepth 65536 in
set_option maxHeartbeats 40000000 in
theorem rm_init1_1_0 (l : Launch) (Z : State) (a0 : Array Value) (hw : ∀ d ∈ tables_1, d.before a0 Z = true) (ws : List Jvm.Cond) (G1 : Int32) (a5 : Addr) (ca : Addr) (kc : ClassId) (cc0 : Int32) (h0 : Heap) (n0 : Nat) (Z0 : n0 ≤ h0.size) (O2 : Sta Z Z.heap "java/lang/String" "COMPACT_STRINGS" "Z" (.int G1)) (P5 : ¬ G1 = 0) (SA : Sta Z Z.heap "java/lang/StringUTF16" "$assertionsDisabled" "Z" (.int 1)) (SH : Sta Z Z.heap "java/lang/StringUTF16" "HI_BYTE_SHIFT" "I" (.int 0)) (SL : Sta Z Z.heap "java/lang/StringUTF16" "LO_BYTE_SHIFT" "I" (.int 8)) (f5 : Exa Z h0 a5 "java/lang/String") (f6 : Fld Z h0 a5 "java/lang/String" "coder" "B" (.int (0 : Int32))) (f7 : Fld Z h0 a5 "java/lang/String" "value" "[B" .null) (f8 : Arv Z h0 ca kc .char (1 : Int32) [(.int cc0)] (.int (0 : Int32))) (ga : n0 ≤ a5) (nca : a5 ≠ ca) (hx0 : (255 : Int32) < cc0) (hn0 : ¬ cc0 < 0) (hm0 : ¬ (65535 : Int32) < cc0) (Old0 : OldL Z n0 h0) :
    MetFree l (⟨"java/lang/String", "<init>", "([C)V"⟩ : MethodName) (head1 (Jvm.Cond.code (⟨"java/lang/String", "<init>", "([C)V"⟩ : MethodName) jdk_42_method_3_code 2 none :: ws) ({ frames := 5, cells := 2, slots := 3, locals := 74 } : Room)) (fun a U => a = #[(.ref a5), (.ref ca)] ∧ Z.Warmed39 U.vm ∧ U.heap = h0) (fun _ _ _ _ _ => True) (fun _ U o U' => ∃ v L, o = .returned v ∧ Q_rm_init1_1_0 Z G1 a5 ca kc cc0 h0 n0 v U'.heap L ∧ FrameEnd U o U' L ({ frames := 5, cells := 2, slots := 3, locals := 74 } : Room).cells ({ frames := 5, cells := 2, slots := 3, locals := 74 } : Room).slots) := by
  refine MetFree.of_bodySF (plainFor_of_name pn_java_lang_String) hisR ?_
  intro p e s m args below meth c s₁ Bd hml0 hP hK
  obtain ⟨rfl, hZ, hh⟩ := hP
  have hx := Bd.exec
  have hby := Bd.bytes
  have hml : c.maxLocals = 2 := hml0
  have hown : s.vm.findClass "java/lang/String" = some m.cls := findClass_of_methodNamed Bd.named
  have hnm := (name_of_methodNamed Bd.named Bd.method).1
  have X0 : Stand p l e ({ frames := 5, cells := 2, slots := 3, locals := 74 } : Room) s m #[(.ref a5), (.ref ca)] below meth c s₁ [] 0 0 := Stand.of_body Bd
  have e0 : s₁.heap = h0 := by rw [← hh, Bd.state]; rfl
  have N0 := Fr.nil n0
  have K00 : Keep h0 h0 [a5] := Keep.refl _ _
  have hlk0 : meth.locks = false := by first | assumption | exact BodyLoose.notSynchronized (by assumption) | exact Body.notSynchronized (by assumption)
  show Rch p e below s₁ (entryFrame m #[(.ref a5), (.ref ca)] 2) (FinP s (Q_rm_init1_1_0 Z G1 a5 ca kc cc0 h0 n0) 2 3)
  refine Rch.cast (ef_rm_init1_1_0 m G1 a5 ca kc cc0) ?_
  show Rch p e below s₁ (mkF m 0 #[.val (.ref a5), .val (.ref ca)] []) _
  refine w_aloadN (pc' := 1) X0 hx hby djdk42m3_0 rfl rfl rfl ?_
  refine w_aloadN (pc' := 2) X0 hx hby djdk42m3_1 rfl rfl rfl ?_
  refine w_iconst (pc' := 3) (v := 0) X0 hx hby djdk42m3_2 rfl rfl ?_
  refine w_aloadN (pc' := 4) X0 hx hby djdk42m3_3 rfl rfl rfl ?_
  refine Rch.st (fun _ k => own_alen X0 hx hZ e0 f8 rfl rfl (hb hby djdk42m3_4) k) ?_
  show Rch p e below s₁ (mkF m 5 #[.val (.ref a5), .val (.ref ca)] [(.int (1 : Int32)), (.int (0 : Int32)), (.ref ca), (.ref a5)]) _
  refine w_aconstNull (pc' := 6) X0 hx hby djdk42m3_5 rfl ?_
  obtain ⟨_, _, ⟨T219, L219, k219, n219⟩, -, X219, ⟨Lc219, hQ219, l219, y219, z219⟩, st219⟩ := X0.specialBack hx (y := (⟨"java/lang/String", "<init>", "([CIILjava/lang/Void;)V"⟩ : MethodName)) rfl hown (mvT hZ (hw _ (List.mem_of_getElem? (i := 8) rfl))) (mvT hZ (hw _ (List.mem_of_getElem? (i := 9) rfl))) (mvT hZ (hw _ (List.mem_of_getElem? (i := 11) rfl))) (by decide) (backOf (W := 0) (rm_init4_1_0 l Z a0 hw [] G1 a5 ca kc cc0 h0 n0 Z0 (O2) (P5) (SA) (SH) (SL) f5 f6 f7 f8 (ga) (nca) (hx0) (hn0) (hm0) Old0) hZ (hw _ (List.mem_of_getElem? (i := 11) rfl)) (hw _ (List.mem_of_getElem? (i := 4) rfl)) (by decide) (by decide)) (g := (mkF m 6 #[.val (.ref a5), .val (.ref ca)] [.null, (.int (1 : Int32)), (.int (0 : Int32)), (.ref ca), (.ref a5)])) rfl (by rw [hml]; rfl) (Steps.refl _) (a := a5) (argsL := [(.ref ca), (.int (0 : Int32)), (.int (1 : Int32)), .null]) (rest := []) (lenOf pd___CIILjava_lang_Void__V rfl) rfl (by show 2 * 0 + _ ≤ _; exact Nat.le_of_eq rfl) (hb hby djdk42m3_6) (fun _ _ => ⟨rfl, e0, (by decide : 0 + 2 ≤ _), (by decide : 0 + 3 ≤ _)⟩)
  dsimp only [Pt.U, Pt.locs, Pt.cells, Pt.slots] at X219 l219 y219 z219 st219 hQ219
  subst l219 y219 z219
  obtain ⟨t_219, kt_219, rfl, NQ219, K219, pq219_0, fq219_0, fq219_1, fq219_2⟩ := hQ219
  have N220 := Fr.app N0 NQ219
  have ne221 : a5 ≠ t_219 := Nat.ne_of_lt (Nat.lt_of_lt_of_le f5.lt pq219_0)
  have ne222 : ca ≠ t_219 := Nat.ne_of_lt (Nat.lt_of_lt_of_le f8.lt pq219_0)
  have ge223 : n0 ≤ t_219 := Nat.le_trans Z0 pq219_0
  have f224 : Exa Z T219.heap a5 "java/lang/String" := f5.keep K219
  have f225 : Arv Z T219.heap ca kc .char (1 : Int32) [(.int cc0)] (.int (0 : Int32)) := f8.keep K219 (ninS (Ne.symm nca) nin0)
  have Old226 := Old0.keep K219 (allS ga all0)
  have Kp227 : Keep h0 T219.heap [a5] := K00.trans K219 (allS (Or.inl (List.mem_of_getElem? (i := 0) rfl)) all0)
  have Z228 := Nat.le_trans Z0 K219.1
  refine Rch.st (fun _ k => st219.trans k) ?_
  show Rch p e below T219 (mkF m 9 #[.val (.ref a5), .val (.ref ca)] []) _
  exact Rch.ret0 X219 hx Bd.returns (hb hby djdk42m3_9) (by rw [(rfl : T219.heap = T219.heap)]; exact ⟨t_219, kt_219, rfl, N220, Kp227, (Nat.le_trans K00.1 pq219_0), fq219_0, fq219_1, fq219_2⟩) (by decide) (by decide)

theorem ef_rm_cmp5_2 (m : MethodId) (ca : Addr) (kc : ClassId) (bd : Addr) (kd : ClassId) (cc0 : Int32) (cc1 : Int32)  : entryFrame m #[(.ref ca), (.int (0 : Int32)), (.ref bd), (.int (0 : Int32)), (.int (2 : Int32))] 7 = mkF m 0 #[.val (.ref ca), .val (.int (0 : Int32)), .val (.ref bd), .val (.int (0 : Int32)), .val (.int (2 : Int32)), .unset, .unset] [] := by  first | (simp [entryFrame, mkF, argsToLocals, Value.category, maxLocals]; done) | rfl
def Q_rm_cmp5_2 (Z : State) (ca : Addr) (kc : ClassId) (bd : Addr) (kd : ClassId) (cc0 : Int32) (cc1 : Int32) (h0 : Heap) (n0 : Nat) (v : Option Value) (h : Heap) (L : List Loc) : Prop := (v = some (.int (2 : Int32))) ∧ (Fr n0 L) ∧ (Keep h0 h [bd]) ∧ (Arv Z h bd kd .byte (2 : Int32) [(.int (own_by cc0)), (.int (own_by cc1))] (.int (0 : Int32)))
set_option maxRecDepth 65536 in
set_option maxHeartbeats 40000000 in
theorem rm_cmp5_2 (l : Launch) (Z : State) (a0 : Array Value) (hw : ∀ d ∈ tables_1, d.before a0 Z = true) (ws : List Jvm.Cond) (ca : Addr) (kc : ClassId) (bd : Addr) (kd : ClassId) (cc0 : Int32) (cc1 : Int32) (h0 : Heap) (n0 : Nat) (Z0 : n0 ≤ h0.size) (f0 : Arv Z h0 ca kc .char (2 : Int32) [(.int cc0), (.int cc1)] (.int (0 : Int32))) (f1 : Arv Z h0 bd kd .byte (2 : Int32) [(.int (0 : Int32)), (.int (0 : Int32))] (.int (0 : Int32))) (gd : n0 ≤ bd) (ncd : ca ≠ bd) (hg0 : ¬ (255 : Int32) < cc0) (hg1 : ¬ (255 : Int32) < cc1) :
    MetFree l (⟨"java/lang/StringUTF16", "compress", "([CI[BII)I"⟩ : MethodName) (head1 (Jvm.Cond.code (⟨"java/lang/StringUTF16", "compress", "([CI[BII)I"⟩ : MethodName) jdk_52_method_21_code 7 (some .int) :: ws) ({ frames := 0, cells := 0, slots := 0, locals := 0 } : Room)) (fun a U => a = #[(.ref ca), (.int (0 : Int32)), (.ref bd), (.int (0 : Int32)), (.int (2 : Int32))] ∧ Z.Warmed39 U.vm ∧ U.heap = h0) (fun _ _ _ _ _ => True) (fun _ U o U' => ∃ v L, o = .returned v ∧ Q_rm_cmp5_2 Z ca kc bd kd cc0 cc1 h0 n0 v U'.heap L ∧ FrameEnd U o U' L ({ frames := 0, cells := 0, slots := 0, locals := 0 } : Room).cells ({ frames := 0, cells := 0, slots := 0, locals := 0 } : Room).slots) := by
  refine MetFree.of_bodySF (plainFor_of_name pn_java_lang_StringUTF16) hisR ?_
  intro p e s m args below meth c s₁ Bd hml0 hP hK
  obtain ⟨rfl, hZ, hh⟩ := hP
  have hx := Bd.exec
  have hby := Bd.bytes
  have hml : c.maxLocals = 7 := hml0
  have hown : s.vm.findClass "java/lang/StringUTF16" = some m.cls := findClass_of_methodNamed Bd.named
  have hnm := (name_of_methodNamed Bd.named Bd.method).1
  have X0 : Stand p l e ({ frames := 0, cells := 0, slots := 0, locals := 0 } : Room) s m #[(.ref ca), (.int (0 : Int32)), (.ref bd), (.int (0 : Int32)), (.int (2 : Int32))] below meth c s₁ [] 0 0 := Stand.of_body Bd
  have e0 : s₁.heap = h0 := by rw [← hh, Bd.state]; rfl
  have N0 := Fr.nil n0
  have K00 : Keep h0 h0 [bd] := Keep.refl _ _
  have hlk0 : meth.locks = false := by first | assumption | exact BodyLoose.notSynchronized (by assumption) | exact Body.notSynchronized (by assumption)
  show Rch p e below s₁ (entryFrame m #[(.ref ca), (.int (0 : Int32)), (.ref bd), (.int (0 : Int32)), (.int (2 : Int32))] 7) (FinP s (Q_rm_cmp5_2 Z ca kc bd kd cc0 cc1 h0 n0) 0 0)
  refine Rch.cast (ef_rm_cmp5_2 m ca kc bd kd cc0 cc1) ?_
  show Rch p e below s₁ (mkF m 0 #[.val (.ref ca), .val (.int (0 : Int32)), .val (.ref bd), .val (.int (0 : Int32)), .val (.int (2 : Int32)), .unset, .unset] []) _
  refine w_iconst (pc' := 1) (v := 0) X0 hx hby djdk52m21_0 rfl rfl ?_
  refine w_istore (pc' := 3) (l' := #[.val (.ref ca), .val (.int (0 : Int32)), .val (.ref bd), .val (.int (0 : Int32)), .val (.int (2 : Int32)), .val (.int (0 : Int32)), .unset]) X0 hx hby djdk52m21_1 rfl rfl ?_
  refine w_iload (pc' := 5) X0 hx hby djdk52m21_3 rfl rfl ?_
  refine w_iload (pc' := 7) X0 hx hby djdk52m21_5 rfl rfl ?_
  refine w_icmpNo (pc' := 10) X0 hx hby djdk52m21_7 (XT.ii_ge_f (by decide)) rfl ?_
  refine w_aloadN (pc' := 11) X0 hx hby djdk52m21_10 rfl rfl rfl ?_
  refine w_iloadN (pc' := 12) X0 hx hby djdk52m21_11 rfl rfl ?_
  refine Rch.st (fun _ k => own_ldC X0 hx hZ e0 f0 (j := (0 : Int32)) ⟨by decide, by decide⟩ (by rfl) rfl rfl (hb hby djdk52m21_12) k) ?_
  show Rch p e below s₁ (mkF m 13 #[.val (.ref ca), .val (.int (0 : Int32)), .val (.ref bd), .val (.int (0 : Int32)), .val (.int (2 : Int32)), .val (.int (0 : Int32)), .unset] [(.int cc0)]) _
  refine w_istore (pc' := 15) (l' := #[.val (.ref ca), .val (.int (0 : Int32)), .val (.ref bd), .val (.int (0 : Int32)), .val (.int (2 : Int32)), .val (.int (0 : Int32)), .val (.int cc0)]) X0 hx hby djdk52m21_13 rfl rfl ?_
  refine w_iload (pc' := 17) X0 hx hby djdk52m21_15 rfl rfl ?_
  refine w_sipush (pc' := 20) (v := 255) X0 hx hby djdk52m21_17 rfl rfl ?_
  refine w_icmpYes (pc' := 26) X0 hx hby djdk52m21_20 (XT.ii_le_t (hg0)) (by decide) ?_
  refine w_aloadN (pc' := 27) X0 hx hby djdk52m21_26 rfl rfl rfl ?_
  refine w_iloadN (pc' := 28) X0 hx hby djdk52m21_27 rfl rfl ?_
  refine w_iload (pc' := 30) X0 hx hby djdk52m21_28 rfl rfl ?_
  refine w_i2b (pc' := 31) X0 hx hby djdk52m21_30 rfl ?_
  obtain ⟨T229, h229, X229, e229, W229, V229, st229⟩ := own_stB X0 hx hZ e0 f1 (j := (0 : Int32)) ⟨by decide, by decide⟩ 0 (by decide) (by decide : 0 < 2) (g := (mkF m 31 #[.val (.ref ca), .val (.int (0 : Int32)), .val (.ref bd), .val (.int (0 : Int32)), .val (.int (2 : Int32)), .val (.int (0 : Int32)), .val (.int cc0)] [(.int (cc0).toInt8.toInt32), (.int (0 : Int32)), (.ref bd)])) rfl rfl (hb hby djdk52m21_31)
  have N230 := Fr.snoc X229 N0 gd
  have f231 : Arv Z h229 ca kc .char (2 : Int32) [(.int cc0), (.int cc1)] (.int (0 : Int32)) := f0.other W229 ncd
  have Z232 := Nat.le_trans Z0 (Keep.of_wr W229).1
  have Kp233 : Keep h0 h229 [bd] := K00.wr W229 (Or.inl (List.mem_of_getElem? (i := 0) rfl))
  have f234 : Arv Z h229 bd kd .byte (2 : Int32) [(.int ((cc0).toInt8.toInt32).toInt8.toInt32), (.int (0 : Int32))] (.int (0 : Int32)) := V229
  refine Rch.st (fun _ k => st229 _ k) ?_
  show Rch p e below T229 (mkF m 32 #[.val (.ref ca), .val (.int (0 : Int32)), .val (.ref bd), .val (.int (0 : Int32)), .val (.int (2 : Int32)), .val (.int (0 : Int32)), .val (.int cc0)] []) _
  refine w_iinc (pc' := 35) (w := (1 : Int32)) (l' := #[.val (.ref ca), .val (.int (1 : Int32)), .val (.ref bd), .val (.int (0 : Int32)), .val (.int (2 : Int32)), .val (.int (0 : Int32)), .val (.int cc0)]) X229 hx hby djdk52m21_32 rfl (by decide) rfl rfl ?_
  refine w_iinc (pc' := 38) (w := (1 : Int32)) (l' := #[.val (.ref ca), .val (.int (1 : Int32)), .val (.ref bd), .val (.int (1 : Int32)), .val (.int (2 : Int32)), .val (.int (0 : Int32)), .val (.int cc0)]) X229 hx hby djdk52m21_35 rfl (by decide) rfl rfl ?_
  refine w_iinc (pc' := 41) (w := (1 : Int32)) (l' := #[.val (.ref ca), .val (.int (1 : Int32)), .val (.ref bd), .val (.int (1 : Int32)), .val (.int (2 : Int32)), .val (.int (1 : Int32)), .val (.int cc0)]) X229 hx hby djdk52m21_38 rfl (by decide) rfl rfl ?_
  refine w_goto (pc' := 3) X229 hx hby djdk52m21_41 (by decide) ?_
  refine w_iload (pc' := 5) X229 hx hby djdk52m21_3 rfl rfl ?_
  refine w_iload (pc' := 7) X229 hx hby djdk52m21_5 rfl rfl ?_
  refine w_icmpNo (pc' := 10) X229 hx hby djdk52m21_7 (XT.ii_ge_f (by decide)) rfl ?_
  refine w_aloadN (pc' := 11) X229 hx hby djdk52m21_10 rfl rfl rfl ?_
  refine w_iloadN (pc' := 12) X229 hx hby djdk52m21_11 rfl rfl ?_
  refine Rch.st (fun _ k => own_ldC X229 hx hZ e229 f231 (j := (1 : Int32)) ⟨by decide, by decide⟩ (by rfl) rfl rfl (hb hby djdk52m21_12) k) ?_
  show Rch p e below T229 (mkF m 13 #[.val (.ref ca), .val (.int (1 : Int32)), .val (.ref bd), .val (.int (1 : Int32)), .val (.int (2 : Int32)), .val (.int (1 : Int32)), .val (.int cc0)] [(.int cc1)]) _
  refine w_istore (pc' := 15) (l' := #[.val (.ref ca), .val (.int (1 : Int32)), .val (.ref bd), .val (.int (1 : Int32)), .val (.int (2 : Int32)), .val (.int (1 : Int32)), .val (.int cc1)]) X229 hx hby djdk52m21_13 rfl rfl ?_
  refine w_iload (pc' := 17) X229 hx hby djdk52m21_15 rfl rfl ?_
  refine w_sipush (pc' := 20) (v := 255) X229 hx hby djdk52m21_17 rfl rfl ?_
  refine w_icmpYes (pc' := 26) X229 hx hby djdk52m21_20 (XT.ii_le_t (hg1)) (by decide) ?_
  refine w_aloadN (pc' := 27) X229 hx hby djdk52m21_26 rfl rfl rfl ?_
  refine w_iloadN (pc' := 28) X229 hx hby djdk52m21_27 rfl rfl ?_
  refine w_iload (pc' := 30) X229 hx hby djdk52m21_28 rfl rfl ?_
  refine w_i2b (pc' := 31) X229 hx hby djdk52m21_30 rfl ?_
  obtain ⟨T235, h235, X235, e235, W235, V235, st235⟩ := own_stB X229 hx hZ e229 f234 (j := (1 : Int32)) ⟨by decide, by decide⟩ 1 (by decide) (by decide : 1 < 2) (g := (mkF m 31 #[.val (.ref ca), .val (.int (1 : Int32)), .val (.ref bd), .val (.int (1 : Int32)), .val (.int (2 : Int32)), .val (.int (1 : Int32)), .val (.int cc1)] [(.int (cc1).toInt8.toInt32), (.int (1 : Int32)), (.ref bd)])) rfl rfl (hb hby djdk52m21_31)
  have N236 := Fr.snoc X235 N230 gd
  have f237 : Arv Z h235 ca kc .char (2 : Int32) [(.int cc0), (.int cc1)] (.int (0 : Int32)) := f231.other W235 ncd
  have Z238 := Nat.le_trans Z232 (Keep.of_wr W235).1
  have Kp239 : Keep h0 h235 [bd] := Kp233.wr W235 (Or.inl (List.mem_of_getElem? (i := 0) rfl))
  have f240 : Arv Z h235 bd kd .byte (2 : Int32) [(.int ((cc0).toInt8.toInt32).toInt8.toInt32), (.int ((cc1).toInt8.toInt32).toInt8.toInt32)] (.int (0 : Int32)) := V235
  refine Rch.st (fun _ k => st235 _ k) ?_
  show Rch p e below T235 (mkF m 32 #[.val (.ref ca), .val (.int (1 : Int32)), .val (.ref bd), .val (.int (1 : Int32)), .val (.int (2 : Int32)), .val (.int (1 : Int32)), .val (.int cc1)] []) _
  refine w_iinc (pc' := 35) (w := (2 : Int32)) (l' := #[.val (.ref ca), .val (.int (2 : Int32)), .val (.ref bd), .val (.int (1 : Int32)), .val (.int (2 : Int32)), .val (.int (1 : Int32)), .val (.int cc1)]) X235 hx hby djdk52m21_32 rfl (by decide) rfl rfl ?_
  refine w_iinc (pc' := 38) (w := (2 : Int32)) (l' := #[.val (.ref ca), .val (.int (2 : Int32)), .val (.ref bd), .val (.int (2 : Int32)), .val (.int (2 : Int32)), .val (.int (1 : Int32)), .val (.int cc1)]) X235 hx hby djdk52m21_35 rfl (by decide) rfl rfl ?_
  refine w_iinc (pc' := 41) (w := (2 : Int32)) (l' := #[.val (.ref ca), .val (.int (2 : Int32)), .val (.ref bd), .val (.int (2 : Int32)), .val (.int (2 : Int32)), .val (.int (2 : Int32)), .val (.int cc1)]) X235 hx hby djdk52m21_38 rfl (by decide) rfl rfl ?_
  refine w_goto (pc' := 3) X235 hx hby djdk52m21_41 (by decide) ?_
  refine w_iload (pc' := 5) X235 hx hby djdk52m21_3 rfl rfl ?_
  refine w_iload (pc' := 7) X235 hx hby djdk52m21_5 rfl rfl ?_
  refine w_icmpYes (pc' := 44) X235 hx hby djdk52m21_7 (XT.ii_ge_t (by decide)) (by decide) ?_
  refine w_iload (pc' := 46) X235 hx hby djdk52m21_44 rfl rfl ?_
  exact Rch.retV X235 hx Bd.returns rfl (Or.inl ⟨rfl, by simp, _, rfl⟩) (hb hby djdk52m21_46) (by rw [e235]; exact ⟨rfl, N236, Kp239, f240⟩) (by decide) (by decide)

theorem ef_rm_cmp3_2 (m : MethodId) (ca : Addr) (kc : ClassId) (cc0 : Int32) (cc1 : Int32)  : entryFrame m #[(.ref ca), (.int (0 : Int32)), (.int (2 : Int32))] 6 = mkF m 0 #[.val (.ref ca), .val (.int (0 : Int32)), .val (.int (2 : Int32)), .unset, .unset, .unset] [] := by  first | (simp [entryFrame, mkF, argsToLocals, Value.category, maxLocals]; done) | rfl
def Q_rm_cmp3_2 (Z : State) (ca : Addr) (kc : ClassId) (cc0 : Int32) (cc1 : Int32) (h0 : Heap) (n0 : Nat) (v : Option Value) (h : Heap) (L : List Loc) : Prop := ∃ (t : Addr) (kt : ClassId), (v = some (.ref t)) ∧ (Fr n0 L) ∧ (Keep h0 h []) ∧ (h0.size ≤ t) ∧ (Arv Z h t kt .byte (2 : Int32) [(.int (own_by cc0)), (.int (own_by cc1))] (.int (0 : Int32)))
set_option maxRecDepth 65536 in
set_option maxHeartbeats 40000000 in
theorem rm_cmp3_2 (l : Launch) (Z : State) (a0 : Array Value) (hw : ∀ d ∈ tables_1, d.before a0 Z = true) (ws : List Jvm.Cond) (ca : Addr) (kc : ClassId) (cc0 : Int32) (cc1 : Int32) (h0 : Heap) (n0 : Nat) (Z0 : n0 ≤ h0.size) (f0 : Arv Z h0 ca kc .char (2 : Int32) [(.int cc0), (.int cc1)] (.int (0 : Int32))) (hg0 : ¬ (255 : Int32) < cc0) (hg1 : ¬ (255 : Int32) < cc1) :
    MetFree l (⟨"java/lang/StringUTF16", "compress", "([CII)[B"⟩ : MethodName) (head1 (Jvm.Cond.code (⟨"java/lang/StringUTF16", "compress", "([CII)[B"⟩ : MethodName) jdk_52_method_16_code 6 (some (.array .byte)) :: ws) ({ frames := 1, cells := 1, slots := 2, locals := 18 } : Room)) (fun a U => a = #[(.ref ca), (.int (0 : Int32)), (.int (2 : Int32))] ∧ Z.Warmed39 U.vm ∧ U.heap = h0) (fun _ _ _ _ _ => True) (fun _ U o U' => ∃ v L, o = .returned v ∧ Q_rm_cmp3_2 Z ca kc cc0 cc1 h0 n0 v U'.heap L ∧ FrameEnd U o U' L ({ frames := 1, cells := 1, slots := 2, locals := 18 } : Room).cells ({ frames := 1, cells := 1, slots := 2, locals := 18 } : Room).slots) := by
  refine MetFree.of_bodySF (plainFor_of_name pn_java_lang_StringUTF16) hisR ?_
  intro p e s m args below meth c s₁ Bd hml0 hP hK
  obtain ⟨rfl, hZ, hh⟩ := hP
  have hx := Bd.exec
  have hby := Bd.bytes
  have hml : c.maxLocals = 6 := hml0
  have hown : s.vm.findClass "java/lang/StringUTF16" = some m.cls := findClass_of_methodNamed Bd.named
  have hnm := (name_of_methodNamed Bd.named Bd.method).1
  have X0 : Stand p l e ({ frames := 1, cells := 1, slots := 2, locals := 18 } : Room) s m #[(.ref ca), (.int (0 : Int32)), (.int (2 : Int32))] below meth c s₁ [] 0 0 := Stand.of_body Bd
  have e0 : s₁.heap = h0 := by rw [← hh, Bd.state]; rfl
  have N0 := Fr.nil n0
  have K00 : Keep h0 h0 [] := Keep.refl _ _
  have hlk0 : meth.locks = false := by first | assumption | exact BodyLoose.notSynchronized (by assumption) | exact Body.notSynchronized (by assumption)
  show Rch p e below s₁ (entryFrame m #[(.ref ca), (.int (0 : Int32)), (.int (2 : Int32))] 6) (FinP s (Q_rm_cmp3_2 Z ca kc cc0 cc1 h0 n0) 1 2)
  refine Rch.cast (ef_rm_cmp3_2 m ca kc cc0 cc1) ?_
  show Rch p e below s₁ (mkF m 0 #[.val (.ref ca), .val (.int (0 : Int32)), .val (.int (2 : Int32)), .unset, .unset, .unset] []) _
  refine w_iloadN (pc' := 1) X0 hx hby djdk52m16_0 rfl rfl ?_
  obtain ⟨T241, h241, kc241, X241, e241, E241, A241, st241⟩ := newP X0 hx hZ (hw _ (List.mem_of_getElem? (i := 16) rfl)) e0 (g := (mkF m 1 #[.val (.ref ca), .val (.int (0 : Int32)), .val (.int (2 : Int32)), .unset, .unset, .unset] [(.int (2 : Int32))])) rfl (hb hby djdk52m16_1) rfl (by decide : ¬ ((2 : Int32) < (0 : Int32))) (cap := 2) (by decide : (2 : Int32).toNatClampNeg ≤ 2) (by decide) (by decide) (by decide)
  obtain ⟨a241, g241⟩ : ∃ z, z = h0.size := ⟨_, rfl⟩
  rw [← g241] at A241 st241
  have ne242 : ca ≠ a241 := by rw [g241]; exact Nat.ne_of_lt f0.lt
  have ge243 : n0 ≤ a241 := Nat.le_trans Z0 (Nat.le_of_eq g241.symm)
  have f245 : Arv Z h241 ca kc .char (2 : Int32) [(.int cc0), (.int cc1)] (.int (0 : Int32)) := f0.ext E241
  have Z246 := Nat.le_trans Z0 E241.1
  have Kp247 : Keep h0 h241 [] := K00.ext E241
  have f248 : Arv Z h241 a241 kc241 .byte (2 : Int32) [(.int (0 : Int32)), (.int (0 : Int32))] (.int (0 : Int32)) := (Arv.new A241 (by decide : ¬ ((2 : Int32) < (0 : Int32)))).pad (pad_rep [] (.int (0 : Int32)) 2)
  refine Rch.st (fun _ k => st241 _ k) ?_
  show Rch p e below T241 (mkF m 3 #[.val (.ref ca), .val (.int (0 : Int32)), .val (.int (2 : Int32)), .unset, .unset, .unset] [(.ref a241)]) _
  refine w_astoreN (pc' := 4) (l' := #[.val (.ref ca), .val (.int (0 : Int32)), .val (.int (2 : Int32)), .val (.ref a241), .unset, .unset]) X241 hx hby djdk52m16_3 rfl rfl rfl ?_
  refine w_aloadN (pc' := 5) X241 hx hby djdk52m16_4 rfl rfl rfl ?_
  refine w_iloadN (pc' := 6) X241 hx hby djdk52m16_5 rfl rfl ?_
  refine w_aloadN (pc' := 7) X241 hx hby djdk52m16_6 rfl rfl rfl ?_
  refine w_iconst (pc' := 8) (v := 0) X241 hx hby djdk52m16_7 rfl rfl ?_
  refine w_iloadN (pc' := 9) X241 hx hby djdk52m16_8 rfl rfl ?_
  obtain ⟨_, _, ⟨T249, L249, k249, n249⟩, -, X249, ⟨Lc249, hQ249, l249, y249, z249⟩, st249⟩ := Jvm.LawKit.callS X241 hx (y := (⟨"java/lang/StringUTF16", "compress", "([CI[BII)I"⟩ : MethodName)) hown (mvT hZ (hw _ (List.mem_of_getElem? (i := 54) rfl))) (mvT hZ (hw _ (List.mem_of_getElem? (i := 55) rfl))) (mvT hZ (hw _ (List.mem_of_getElem? (i := 52) rfl))) (mvT hZ (hw _ (List.mem_of_getElem? (i := 56) rfl))) (by decide) (backOf (W := 0) (rm_cmp5_2 l Z a0 hw [] ca kc a241 kc241 cc0 cc1 h241 n0 Z246 f245 f248 (ge243) (ne242) (hg0) (hg1)) hZ (hw _ (List.mem_of_getElem? (i := 56) rfl)) (hw _ (List.mem_of_getElem? (i := 52) rfl)) (by decide) (by decide)) (g := (mkF m 9 #[.val (.ref ca), .val (.int (0 : Int32)), .val (.int (2 : Int32)), .val (.ref a241), .unset, .unset] [(.int (2 : Int32)), (.int (0 : Int32)), (.ref a241), (.int (0 : Int32)), (.ref ca)])) rfl (by rw [hml]; rfl) (argsL := [(.ref ca), (.int (0 : Int32)), (.ref a241), (.int (0 : Int32)), (.int (2 : Int32))]) (rest := []) (lenOf pd___CI_BII_I rfl) rfl (by show 2 * 0 + _ ≤ _; exact Nat.le_of_eq rfl) (hb hby djdk52m16_9) (fun _ _ => ⟨rfl, e241, (by decide : 1 + 0 ≤ _), (by decide : 2 + 0 ≤ _)⟩)
  dsimp only [Pt.U, Pt.locs, Pt.cells, Pt.slots] at X249 l249 y249 z249 st249 hQ249
  subst l249 y249 z249
  obtain ⟨rfl, NQ249, K249, fq249_0⟩ := hQ249
  have N250 := Fr.app N0 NQ249
  have f251 : Arv Z T249.heap ca kc .char (2 : Int32) [(.int cc0), (.int cc1)] (.int (0 : Int32)) := f245.keep K249 (ninS ne242 nin0)
  have Kp252 : Keep h0 T249.heap [] := Kp247.trans K249 (allS (Or.inr (Nat.le_trans K00.1 (Nat.le_of_eq g241.symm))) all0)
  have Z253 := Nat.le_trans Z246 K249.1
  refine Rch.st (fun _ k => st249 _ k) ?_
  show Rch p e below T249 (mkF m 12 #[.val (.ref ca), .val (.int (0 : Int32)), .val (.int (2 : Int32)), .val (.ref a241), .unset, .unset] [(.int (2 : Int32))]) _
  refine w_istore (pc' := 14) (l' := #[.val (.ref ca), .val (.int (0 : Int32)), .val (.int (2 : Int32)), .val (.ref a241), .val (.int (2 : Int32)), .unset]) X249 hx hby djdk52m16_12 rfl rfl ?_
  refine w_iload (pc' := 16) X249 hx hby djdk52m16_14 rfl rfl ?_
  refine w_iloadN (pc' := 17) X249 hx hby djdk52m16_16 rfl rfl ?_
  refine w_icmpYes (pc' := 57) X249 hx hby djdk52m16_17 (XT.ii_eq_t (rfl)) (by decide) ?_
  refine w_aloadN (pc' := 58) X249 hx hby djdk52m16_57 rfl rfl rfl ?_
  exact Rch.retV X249 hx Bd.returns rfl (Or.inr (Or.inr (Or.inr (Or.inr ⟨rfl, rfl, rfl⟩)))) (hb hby djdk52m16_58) (by rw [(rfl : T249.heap = T249.heap)]; exact ⟨a241, kc241, rfl, N250, Kp252, (Nat.le_trans K00.1 (Nat.le_of_eq g241.symm)), fq249_0⟩) (by decide) (by decide)

theorem ef_rm_init4_2 (m : MethodId) (G1 : Int32) (a5 : Addr) (ca : Addr) (kc : ClassId) (cc0 : Int32) (cc1 : Int32)  : entryFrame m #[(.ref a5), (.ref ca), (.int (0 : Int32)), (.int (2 : Int32)), .null] 6 = mkF m 0 #[.val (.ref a5), .val (.ref ca), .val (.int (0 : Int32)), .val (.int (2 : Int32)), .val .null, .unset] [] := by  first | (simp [entryFrame, mkF, argsToLocals, Value.category, maxLocals]; done) | rfl
def Q_rm_init4_2 (Z : State) (G1 : Int32) (a5 : Addr) (ca : Addr) (kc : ClassId) (cc0 : Int32) (cc1 : Int32) (h0 : Heap) (n0 : Nat) (v : Option Value) (h : Heap) (L : List Loc) : Prop := ∃ (t : Addr) (kt : ClassId), (v = none) ∧ (Fr n0 L) ∧ (Keep h0 h [a5]) ∧ (h0.size ≤ t) ∧ (Fld Z h a5 "java/lang/String" "coder" "B" (.int (0 : Int32))) ∧ (Fld Z h a5 "java/lang/String" "value" "[B" (.ref t)) ∧ (Arv Z h t kt .byte (2 : Int32) [(.int (own_by cc0)), (.int (own_by cc1))] (.int (0 : Int32)))
set_option maxRecDepth 65536 in
set_option maxHeartbeats 40000000 in
theorem rm_init4_2 (l : Launch) (Z : State) (a0 : Array Value) (hw : ∀ d ∈ tables_1, d.before a0 Z = true) (ws : List Jvm.Cond) (G1 : Int32) (a5 : Addr) (ca : Addr) (kc : ClassId) (cc0 : Int32) (cc1 : Int32) (h0 : Heap) (n0 : Nat) (Z0 : n0 ≤ h0.size) (O2 : Sta Z Z.heap "java/lang/String" "COMPACT_STRINGS" "Z" (.int G1)) (P5 : ¬ G1 = 0) (f2 : Exa Z h0 a5 "java/lang/String") (f3 : Fld Z h0 a5 "java/lang/String" "coder" "B" (.int (0 : Int32))) (f4 : Fld Z h0 a5 "java/lang/String" "value" "[B" .null) (f5 : Arv Z h0 ca kc .char (2 : Int32) [(.int cc0), (.int cc1)] (.int (0 : Int32))) (ga : n0 ≤ a5) (nca : a5 ≠ ca) (hg0 : ¬ (255 : Int32) < cc0) (hg1 : ¬ (255 : Int32) < cc1) (Old0 : OldL Z n0 h0) :
    MetFree l (⟨"java/lang/String", "<init>", "([CIILjava/lang/Void;)V"⟩ : MethodName) (head1 (Jvm.Cond.code (⟨"java/lang/String", "<init>", "([CIILjava/lang/Void;)V"⟩ : MethodName) jdk_42_method_149_code 6 none :: ws) ({ frames := 2, cells := 1, slots := 2, locals := 35 } : Room)) (fun a U => a = #[(.ref a5), (.ref ca), (.int (0 : Int32)), (.int (2 : Int32)), .null] ∧ Z.Warmed39 U.vm ∧ U.heap = h0) (fun _ _ _ _ _ => True) (fun _ U o U' => ∃ v L, o = .returned v ∧ Q_rm_init4_2 Z G1 a5 ca kc cc0 cc1 h0 n0 v U'.heap L ∧ FrameEnd U o U' L ({ frames := 2, cells := 1, slots := 2, locals := 35 } : Room).cells ({ frames := 2, cells := 1, slots := 2, locals := 35 } : Room).slots) := by
  refine MetFree.of_bodySF (plainFor_of_name pn_java_lang_String) hisR ?_
  intro p e s m args below meth c s₁ Bd hml0 hP hK
  obtain ⟨rfl, hZ, hh⟩ := hP
  have hx := Bd.exec
  have hby := Bd.bytes
  have hml : c.maxLocals = 6 := hml0
  have hown : s.vm.findClass "java/lang/String" = some m.cls := findClass_of_methodNamed Bd.named
  have hnm := (name_of_methodNamed Bd.named Bd.method).1
  have X0 : Stand p l e ({ frames := 2, cells := 1, slots := 2, locals := 35 } : Room) s m #[(.ref a5), (.ref ca), (.int (0 : Int32)), (.int (2 : Int32)), .null] below meth c s₁ [] 0 0 := Stand.of_body Bd
  have e0 : s₁.heap = h0 := by rw [← hh, Bd.state]; rfl
  have N0 := Fr.nil n0
  have K00 : Keep h0 h0 [a5] := Keep.refl _ _
  have hlk0 : meth.locks = false := by first | assumption | exact BodyLoose.notSynchronized (by assumption) | exact Body.notSynchronized (by assumption)
  show Rch p e below s₁ (entryFrame m #[(.ref a5), (.ref ca), (.int (0 : Int32)), (.int (2 : Int32)), .null] 6) (FinP s (Q_rm_init4_2 Z G1 a5 ca kc cc0 cc1 h0 n0) 1 2)
  refine Rch.cast (ef_rm_init4_2 m G1 a5 ca kc cc0 cc1) ?_
  show Rch p e below s₁ (mkF m 0 #[.val (.ref a5), .val (.ref ca), .val (.int (0 : Int32)), .val (.int (2 : Int32)), .val .null, .unset] []) _
  refine w_aloadN (pc' := 1) X0 hx hby djdk42m149_0 rfl rfl rfl ?_
  obtain ⟨T254, X254, e254, st254⟩ := initO X0 hx hZ hown (hw _ (List.mem_of_getElem? (i := 12) rfl)) (hw _ (List.mem_of_getElem? (i := 13) rfl)) (hw _ (List.mem_of_getElem? (i := 14) rfl)) e0 (g := (mkF m 1 #[.val (.ref a5), .val (.ref ca), .val (.int (0 : Int32)), .val (.int (2 : Int32)), .val .null, .unset] [(.ref a5)])) rfl (by rw [hml]; rfl) rfl (hb hby djdk42m149_1) (by decide) (W := 0) (by show 2 * 0 + _ ≤ _; exact Nat.le_of_eq rfl) (by decide)
  refine Rch.st (fun _ k => st254 _ k) ?_
  show Rch p e below T254 (mkF m 4 #[.val (.ref a5), .val (.ref ca), .val (.int (0 : Int32)), .val (.int (2 : Int32)), .val .null, .unset] []) _
  refine w_iloadN (pc' := 5) X254 hx hby djdk42m149_4 rfl rfl ?_
  refine w_ifYes (pc' := 27) X254 hx hby djdk42m149_5 (XT.i0_ne_t (by decide)) (by decide) ?_
  obtain ⟨T255, X255, e255, st255⟩ := getS X254 hx hZ hown (host := "") (hw _ (List.mem_of_getElem? (i := 48) rfl)) Via.refl e254 (O2.ext Old0.2) (g := (mkF m 27 #[.val (.ref a5), .val (.ref ca), .val (.int (0 : Int32)), .val (.int (2 : Int32)), .val .null, .unset] [])) rfl (hb hby djdk42m149_27)
  refine Rch.st (fun _ k => st255 _ k) ?_
  show Rch p e below T255 (mkF m 30 #[.val (.ref a5), .val (.ref ca), .val (.int (0 : Int32)), .val (.int (2 : Int32)), .val .null, .unset] [(.int G1)]) _
  refine w_ifNo (pc' := 33) X255 hx hby djdk42m149_30 (XT.i0_eq_f (P5)) rfl ?_
  refine w_aloadN (pc' := 34) X255 hx hby djdk42m149_33 rfl rfl rfl ?_
  refine w_iloadN (pc' := 35) X255 hx hby djdk42m149_34 rfl rfl ?_
  refine w_iloadN (pc' := 36) X255 hx hby djdk42m149_35 rfl rfl ?_
  obtain ⟨_, _, ⟨T256, L256, k256, n256⟩, -, X256, ⟨Lc256, hQ256, l256, y256, z256⟩, st256⟩ := Jvm.LawKit.callS X255 hx (y := (⟨"java/lang/StringUTF16", "compress", "([CII)[B"⟩ : MethodName)) hown (mvT hZ (hw _ (List.mem_of_getElem? (i := 50) rfl))) (mvT hZ (hw _ (List.mem_of_getElem? (i := 51) rfl))) (mvT hZ (hw _ (List.mem_of_getElem? (i := 52) rfl))) (mvT hZ (hw _ (List.mem_of_getElem? (i := 53) rfl))) (by decide) (backOf (W := 0) (rm_cmp3_2 l Z a0 hw [] ca kc cc0 cc1 h0 n0 Z0 f5 (hg0) (hg1)) hZ (hw _ (List.mem_of_getElem? (i := 53) rfl)) (hw _ (List.mem_of_getElem? (i := 52) rfl)) (by decide) (by decide)) (g := (mkF m 36 #[.val (.ref a5), .val (.ref ca), .val (.int (0 : Int32)), .val (.int (2 : Int32)), .val .null, .unset] [(.int (2 : Int32)), (.int (0 : Int32)), (.ref ca)])) rfl (by rw [hml]; rfl) (argsL := [(.ref ca), (.int (0 : Int32)), (.int (2 : Int32))]) (rest := []) (lenOf pd___CII__B rfl) rfl (by show 2 * 0 + _ ≤ _; exact Nat.le_of_eq rfl) (hb hby djdk42m149_36) (fun _ _ => ⟨rfl, e255, (by decide : 0 + 1 ≤ _), (by decide : 0 + 2 ≤ _)⟩)
  dsimp only [Pt.U, Pt.locs, Pt.cells, Pt.slots] at X256 l256 y256 z256 st256 hQ256
  subst l256 y256 z256
  obtain ⟨t_256, kt_256, rfl, NQ256, K256, pq256_0, fq256_0⟩ := hQ256
  have N257 := Fr.app N0 NQ256
  have ne258 : a5 ≠ t_256 := Nat.ne_of_lt (Nat.lt_of_lt_of_le f2.lt pq256_0)
  have ne259 : ca ≠ t_256 := Nat.ne_of_lt (Nat.lt_of_lt_of_le f5.lt pq256_0)
  have ge260 : n0 ≤ t_256 := Nat.le_trans Z0 pq256_0
  have f261 : Exa Z T256.heap a5 "java/lang/String" := f2.keep K256
  have f262 : Fld Z T256.heap a5 "java/lang/String" "coder" "B" (.int (0 : Int32)) := f3.keep K256 nin0
  have f263 : Fld Z T256.heap a5 "java/lang/String" "value" "[B" .null := f4.keep K256 nin0
  have f264 : Arv Z T256.heap ca kc .char (2 : Int32) [(.int cc0), (.int cc1)] (.int (0 : Int32)) := f5.keep K256 nin0
  have Old265 := Old0.keep K256 all0
  have Kp266 : Keep h0 T256.heap [a5] := K00.trans K256 all0
  have Z267 := Nat.le_trans Z0 K256.1
  refine Rch.st (fun _ k => st256 _ k) ?_
  show Rch p e below T256 (mkF m 39 #[.val (.ref a5), .val (.ref ca), .val (.int (0 : Int32)), .val (.int (2 : Int32)), .val .null, .unset] [(.ref t_256)]) _
  refine w_astore (pc' := 41) (l' := #[.val (.ref a5), .val (.ref ca), .val (.int (0 : Int32)), .val (.int (2 : Int32)), .val .null, .val (.ref t_256)]) X256 hx hby djdk42m149_39 rfl rfl rfl ?_
  refine w_aloadN (pc' := 42) X256 hx hby djdk42m149_41 rfl rfl rfl ?_
  refine w_aload (pc' := 44) X256 hx hby djdk42m149_42 rfl rfl rfl ?_
  refine w_iloadN (pc' := 45) X256 hx hby djdk42m149_44 rfl rfl ?_
  obtain ⟨_, _, ⟨T268, L268, k268, n268⟩, -, X268, ⟨Lc268, hQ268, l268, y268, z268⟩, st268⟩ := Jvm.LawKit.callS X256 hx (y := (⟨"java/lang/StringUTF16", "coderFromArrayLen", "([BI)B"⟩ : MethodName)) hown (mvT hZ (hw _ (List.mem_of_getElem? (i := 57) rfl))) (mvT hZ (hw _ (List.mem_of_getElem? (i := 58) rfl))) (mvT hZ (hw _ (List.mem_of_getElem? (i := 52) rfl))) (mvT hZ (hw _ (List.mem_of_getElem? (i := 59) rfl))) (by decide) (backOf (W := 1) (rm_cfl l Z a0 hw [] t_256 kt_256 (2 : Int32) (2 : Int32) ([(.int (own_by cc0)), (.int (own_by cc1))]) (.int (0 : Int32)) T256.heap n0 Z267 fq256_0) hZ (hw _ (List.mem_of_getElem? (i := 59) rfl)) (hw _ (List.mem_of_getElem? (i := 52) rfl)) (by decide) (by decide)) (g := (mkF m 45 #[.val (.ref a5), .val (.ref ca), .val (.int (0 : Int32)), .val (.int (2 : Int32)), .val .null, .val (.ref t_256)] [(.int (2 : Int32)), (.ref t_256), (.ref a5)])) rfl (by rw [hml]; rfl) (argsL := [(.ref t_256), (.int (2 : Int32))]) (rest := [(.ref a5)]) (lenOf pd___BI_B rfl) rfl (by show 2 * 0 + _ ≤ _; exact Nat.le_of_eq rfl) (hb hby djdk42m149_45) (fun _ _ => ⟨rfl, (rfl : T256.heap = T256.heap), (by decide : 1 + 0 ≤ _), (by decide : 2 + 0 ≤ _)⟩)
  dsimp only [Pt.U, Pt.locs, Pt.cells, Pt.slots] at X268 l268 y268 z268 st268 hQ268
  subst l268 y268 z268
  obtain ⟨rfl, NQ268, K268⟩ := hQ268
  have N269 := Fr.app N257 NQ268
  refine Rch.st (fun _ k => st268 _ k) ?_
  show Rch p e below T268 (mkF m 48 #[.val (.ref a5), .val (.ref ca), .val (.int (0 : Int32)), .val (.int (2 : Int32)), .val .null, .val (.ref t_256)] [(.int ((XT.ushr ((2 : Int32) - (2 : Int32)) (31 : Int32))).toInt8.toInt32), (.ref a5)]) _
  have r270 : ((XT.ushr ((2 : Int32) - (2 : Int32)) (31 : Int32))).toInt8.toInt32 = (0 : Int32) := by decide
  rw [r270]
  show Rch p e below T268 (mkF m 48 #[.val (.ref a5), .val (.ref ca), .val (.int (0 : Int32)), .val (.int (2 : Int32)), .val .null, .val (.ref t_256)] [(.int (0 : Int32)), (.ref a5)]) _
  obtain ⟨T271, h271, X271, e271, W271, st271⟩ := putF X268 hx hZ hown (host := "") (Or.inl (hw _ (List.mem_of_getElem? (i := 22) rfl))) Via.refl K268 f262 f261 (Or.inr ⟨(hw _ (List.mem_of_getElem? (i := 18) rfl)), rfl, hnm⟩) (hw _ (List.mem_of_getElem? (i := 3) rfl)) (ty := .byte) (by decide) rfl rfl (g := (mkF m 48 #[.val (.ref a5), .val (.ref ca), .val (.int (0 : Int32)), .val (.int (2 : Int32)), .val .null, .val (.ref t_256)] [(.int (0 : Int32)), (.ref a5)])) rfl rfl (hb hby djdk42m149_48)
  have N272 := Fr.snoc X271 N269 ga
  have f273 : Exa Z h271 a5 "java/lang/String" := f261.wr W271
  have f274 : Fld Z h271 a5 "java/lang/String" "coder" "B" (.int (0 : Int32)) := f262.same W271
  have f275 : Fld Z h271 a5 "java/lang/String" "value" "[B" .null := f263.other W271 (Or.inr (slot_ne (t := (.array .byte)) (t' := .byte) (Or.inr (hw _ (List.mem_of_getElem? (i := 17) rfl))) (Or.inr (hw _ (List.mem_of_getElem? (i := 18) rfl))) (by decide) (by decide) (by decide)))
  have f276 : Arv Z h271 ca kc .char (2 : Int32) [(.int cc0), (.int cc1)] (.int (0 : Int32)) := f264.other W271 (Ne.symm nca)
  have f277 : Arv Z h271 t_256 kt_256 .byte (2 : Int32) [(.int (own_by cc0)), (.int (own_by cc1))] (.int (0 : Int32)) := fq256_0.other W271 (Ne.symm ne258)
  have Old278 := Old265.wr W271 ga
  have Z279 := Nat.le_trans Z267 (Keep.of_wr W271).1
  have Kp280 : Keep h0 h271 [a5] := Kp266.wr W271 (Or.inl (List.mem_of_getElem? (i := 0) rfl))
  refine Rch.st (fun _ k => st271 _ k) ?_
  show Rch p e below T271 (mkF m 51 #[.val (.ref a5), .val (.ref ca), .val (.int (0 : Int32)), .val (.int (2 : Int32)), .val .null, .val (.ref t_256)] []) _
  refine w_aloadN (pc' := 52) X271 hx hby djdk42m149_51 rfl rfl rfl ?_
  refine w_aload (pc' := 54) X271 hx hby djdk42m149_52 rfl rfl rfl ?_
  obtain ⟨T281, h281, X281, e281, W281, st281⟩ := putF X271 hx hZ hown (host := "") (Or.inl (hw _ (List.mem_of_getElem? (i := 21) rfl))) Via.refl e271 f275 f273 (Or.inr ⟨(hw _ (List.mem_of_getElem? (i := 17) rfl)), rfl, hnm⟩) (hw _ (List.mem_of_getElem? (i := 3) rfl)) (ty := (.array .byte)) (by decide) rfl rfl (g := (mkF m 54 #[.val (.ref a5), .val (.ref ca), .val (.int (0 : Int32)), .val (.int (2 : Int32)), .val .null, .val (.ref t_256)] [(.ref t_256), (.ref a5)])) rfl rfl (hb hby djdk42m149_54)
  have N282 := Fr.snoc X281 N272 ga
  have f283 : Exa Z h281 a5 "java/lang/String" := f273.wr W281
  have f284 : Fld Z h281 a5 "java/lang/String" "coder" "B" (.int (0 : Int32)) := f274.other W281 (Or.inr (slot_ne (t := .byte) (t' := (.array .byte)) (Or.inr (hw _ (List.mem_of_getElem? (i := 18) rfl))) (Or.inr (hw _ (List.mem_of_getElem? (i := 17) rfl))) (by decide) (by decide) (by decide)))
  have f285 : Fld Z h281 a5 "java/lang/String" "value" "[B" (.ref t_256) := f275.same W281
  have f286 : Arv Z h281 ca kc .char (2 : Int32) [(.int cc0), (.int cc1)] (.int (0 : Int32)) := f276.other W281 (Ne.symm nca)
  have f287 : Arv Z h281 t_256 kt_256 .byte (2 : Int32) [(.int (own_by cc0)), (.int (own_by cc1))] (.int (0 : Int32)) := f277.other W281 (Ne.symm ne258)
  have Old288 := Old278.wr W281 ga
  have Z289 := Nat.le_trans Z279 (Keep.of_wr W281).1
  have Kp290 : Keep h0 h281 [a5] := Kp280.wr W281 (Or.inl (List.mem_of_getElem? (i := 0) rfl))
  refine Rch.st (fun _ k => st281 _ k) ?_
  show Rch p e below T281 (mkF m 57 #[.val (.ref a5), .val (.ref ca), .val (.int (0 : Int32)), .val (.int (2 : Int32)), .val .null, .val (.ref t_256)] []) _
  exact Rch.ret0 X281 hx Bd.returns (hb hby djdk42m149_57) (by rw [e281]; exact ⟨t_256, kt_256, rfl, N282, Kp290, (Nat.le_trans K00.1 pq256_0), f284, f285, f287⟩) (by decide) (by decide)

theorem ef_rm_init1_2 (m : MethodId) (G1 : Int32) (a5 : Addr) (ca : Addr) (kc : ClassId) (cc0 : Int32) (cc1 : Int32)  : entryFrame m #[(.ref a5), (.ref ca)] 2 = mkF m 0 #[.val (.ref a5), .val (.ref ca)] [] := by  first | (simp [entryFrame, mkF, argsToLocals, Value.category, maxLocals]; done) | rfl
def Q_rm_init1_2 (Z : State) (G1 : Int32) (a5 : Addr) (ca : Addr) (kc : ClassId) (cc0 : Int32) (cc1 : Int32) (h0 : Heap) (n0 : Nat) (v : Option Value) (h : Heap) (L : List Loc) : Prop := ∃ (t : Addr) (kt : ClassId), (v = none) ∧ (Fr n0 L) ∧ (Keep h0 h [a5]) ∧ (h0.size ≤ t) ∧ (Fld Z h a5 "java/lang/String" "coder" "B" (.int (0 : Int32))) ∧ (Fld Z h a5 "java/lang/String" "value" "[B" (.ref t)) ∧ (Arv Z h t kt .byte (2 : Int32) [(.int (own_by cc0)), (.int (own_by cc1))] (.int (0 : Int32)))
set_option maxRecDepth 65536 in
set_option maxHeartbeats 40000000 in
theorem rm_init1_2 (l : Launch) (Z : State) (a0 : Array Value) (hw : ∀ d ∈ tables_1, d.before a0 Z = true) (ws : List Jvm.Cond) (G1 : Int32) (a5 : Addr) (ca : Addr) (kc : ClassId) (cc0 : Int32) (cc1 : Int32) (h0 : Heap) (n0 : Nat) (Z0 : n0 ≤ h0.size) (O2 : Sta Z Z.heap "java/lang/String" "COMPACT_STRINGS" "Z" (.int G1)) (P5 : ¬ G1 = 0) (f2 : Exa Z h0 a5 "java/lang/String") (f3 : Fld Z h0 a5 "java/lang/String" "coder" "B" (.int (0 : Int32))) (f4 : Fld Z h0 a5 "java/lang/String" "value" "[B" .null) (f5 : Arv Z h0 ca kc .char (2 : Int32) [(.int cc0), (.int cc1)] (.int (0 : Int32))) (ga : n0 ≤ a5) (nca : a5 ≠ ca) (hg0 : ¬ (255 : Int32) < cc0) (hg1 : ¬ (255 : Int32) < cc1) (Old0 : OldL Z n0 h0) :
    MetFree l (⟨"java/lang/String", "<init>", "([C)V"⟩ : MethodName) (head1 (Jvm.Cond.code (⟨"java/lang/String", "<init>", "([C)V"⟩ : MethodName) jdk_42_method_3_code 2 none :: ws) ({ frames := 3, cells := 1, slots := 2, locals := 52 } : Room)) (fun a U => a = #[(.ref a5), (.ref ca)] ∧ Z.Warmed39 U.vm ∧ U.heap = h0) (fun _ _ _ _ _ => True) (fun _ U o U' => ∃ v L, o = .returned v ∧ Q_rm_init1_2 Z G1 a5 ca kc cc0 cc1 h0 n0 v U'.heap L ∧ FrameEnd U o U' L ({ frames := 3, cells := 1, slots := 2, locals := 52 } : Room).cells ({ frames := 3, cells := 1, slots := 2, locals := 52 } : Room).slots) := by
  refine MetFree.of_bodySF (plainFor_of_name pn_java_lang_String) hisR ?_
  intro p e s m args below meth c s₁ Bd hml0 hP hK
  obtain ⟨rfl, hZ, hh⟩ := hP
  have hx := Bd.exec
  have hby := Bd.bytes
  have hml : c.maxLocals = 2 := hml0
  have hown : s.vm.findClass "java/lang/String" = some m.cls := findClass_of_methodNamed Bd.named
  have hnm := (name_of_methodNamed Bd.named Bd.method).1
  have X0 : Stand p l e ({ frames := 3, cells := 1, slots := 2, locals := 52 } : Room) s m #[(.ref a5), (.ref ca)] below meth c s₁ [] 0 0 := Stand.of_body Bd
  have e0 : s₁.heap = h0 := by rw [← hh, Bd.state]; rfl
  have N0 := Fr.nil n0
  have K00 : Keep h0 h0 [a5] := Keep.refl _ _
  have hlk0 : meth.locks = false := by first | assumption | exact BodyLoose.notSynchronized (by assumption) | exact Body.notSynchronized (by assumption)
  show Rch p e below s₁ (entryFrame m #[(.ref a5), (.ref ca)] 2) (FinP s (Q_rm_init1_2 Z G1 a5 ca kc cc0 cc1 h0 n0) 1 2)
  refine Rch.cast (ef_rm_init1_2 m G1 a5 ca kc cc0 cc1) ?_
  show Rch p e below s₁ (mkF m 0 #[.val (.ref a5), .val (.ref ca)] []) _
  refine w_aloadN (pc' := 1) X0 hx hby djdk42m3_0 rfl rfl rfl ?_
  refine w_aloadN (pc' := 2) X0 hx hby djdk42m3_1 rfl rfl rfl ?_
  refine w_iconst (pc' := 3) (v := 0) X0 hx hby djdk42m3_2 rfl rfl ?_
  refine w_aloadN (pc' := 4) X0 hx hby djdk42m3_3 rfl rfl rfl ?_
  refine Rch.st (fun _ k => own_alen X0 hx hZ e0 f5 rfl rfl (hb hby djdk42m3_4) k) ?_
  show Rch p e below s₁ (mkF m 5 #[.val (.ref a5), .val (.ref ca)] [(.int (2 : Int32)), (.int (0 : Int32)), (.ref ca), (.ref a5)]) _
  refine w_aconstNull (pc' := 6) X0 hx hby djdk42m3_5 rfl ?_
  obtain ⟨_, _, ⟨T291, L291, k291, n291⟩, -, X291, ⟨Lc291, hQ291, l291, y291, z291⟩, st291⟩ := X0.specialBack hx (y := (⟨"java/lang/String", "<init>", "([CIILjava/lang/Void;)V"⟩ : MethodName)) rfl hown (mvT hZ (hw _ (List.mem_of_getElem? (i := 8) rfl))) (mvT hZ (hw _ (List.mem_of_getElem? (i := 9) rfl))) (mvT hZ (hw _ (List.mem_of_getElem? (i := 11) rfl))) (by decide) (backOf (W := 0) (rm_init4_2 l Z a0 hw [] G1 a5 ca kc cc0 cc1 h0 n0 Z0 (O2) (P5) f2 f3 f4 f5 (ga) (nca) (hg0) (hg1) Old0) hZ (hw _ (List.mem_of_getElem? (i := 11) rfl)) (hw _ (List.mem_of_getElem? (i := 4) rfl)) (by decide) (by decide)) (g := (mkF m 6 #[.val (.ref a5), .val (.ref ca)] [.null, (.int (2 : Int32)), (.int (0 : Int32)), (.ref ca), (.ref a5)])) rfl (by rw [hml]; rfl) (Steps.refl _) (a := a5) (argsL := [(.ref ca), (.int (0 : Int32)), (.int (2 : Int32)), .null]) (rest := []) (lenOf pd___CIILjava_lang_Void__V rfl) rfl (by show 2 * 0 + _ ≤ _; exact Nat.le_of_eq rfl) (hb hby djdk42m3_6) (fun _ _ => ⟨rfl, e0, (by decide : 0 + 1 ≤ _), (by decide : 0 + 2 ≤ _)⟩)
  dsimp only [Pt.U, Pt.locs, Pt.cells, Pt.slots] at X291 l291 y291 z291 st291 hQ291
  subst l291 y291 z291
  obtain ⟨t_291, kt_291, rfl, NQ291, K291, pq291_0, fq291_0, fq291_1, fq291_2⟩ := hQ291
  have N292 := Fr.app N0 NQ291
  have ne293 : a5 ≠ t_291 := Nat.ne_of_lt (Nat.lt_of_lt_of_le f2.lt pq291_0)
  have ne294 : ca ≠ t_291 := Nat.ne_of_lt (Nat.lt_of_lt_of_le f5.lt pq291_0)
  have ge295 : n0 ≤ t_291 := Nat.le_trans Z0 pq291_0
  have f296 : Exa Z T291.heap a5 "java/lang/String" := f2.keep K291
  have f297 : Arv Z T291.heap ca kc .char (2 : Int32) [(.int cc0), (.int cc1)] (.int (0 : Int32)) := f5.keep K291 (ninS (Ne.symm nca) nin0)
  have Old298 := Old0.keep K291 (allS ga all0)
  have Kp299 : Keep h0 T291.heap [a5] := K00.trans K291 (allS (Or.inl (List.mem_of_getElem? (i := 0) rfl)) all0)
  have Z300 := Nat.le_trans Z0 K291.1
  refine Rch.st (fun _ k => st291.trans k) ?_
  show Rch p e below T291 (mkF m 9 #[.val (.ref a5), .val (.ref ca)] []) _
  exact Rch.ret0 X291 hx Bd.returns (hb hby djdk42m3_9) (by rw [(rfl : T291.heap = T291.heap)]; exact ⟨t_291, kt_291, rfl, N292, Kp299, (Nat.le_trans K00.1 pq291_0), fq291_0, fq291_1, fq291_2⟩) (by decide) (by decide)

theorem ef_rm_nbl_2 (m : MethodId)   : entryFrame m #[(.int (2 : Int32))] 1 = mkF m 0 #[.val (.int (2 : Int32))] [] := by  first | (simp [entryFrame, mkF, argsToLocals, Value.category, maxLocals]; done) | rfl
def Q_rm_nbl_2 (Z : State)  (h0 : Heap) (n0 : Nat) (v : Option Value) (h : Heap) (L : List Loc) : Prop := (v = some (.int (4 : Int32))) ∧ (Fr n0 L) ∧ (h = h0)
set_option maxRecDepth 65536 in
set_option maxHeartbeats 40000000 in
theorem rm_nbl_2 (l : Launch) (Z : State) (a0 : Array Value) (hw : ∀ d ∈ tables_1, d.before a0 Z = true) (ws : List Jvm.Cond)  (h0 : Heap) (n0 : Nat) (Z0 : n0 ≤ h0.size)  :
    MetFree l (⟨"java/lang/StringUTF16", "newBytesLength", "(I)I"⟩ : MethodName) (head1 (Jvm.Cond.code (⟨"java/lang/StringUTF16", "newBytesLength", "(I)I"⟩ : MethodName) jdk_52_method_3_code 1 (some .int) :: ws) ({ frames := 0, cells := 0, slots := 0, locals := 0 } : Room)) (fun a U => a = #[(.int (2 : Int32))] ∧ Z.Warmed39 U.vm ∧ U.heap = h0) (fun _ _ _ _ _ => True) (fun _ U o U' => ∃ v L, o = .returned v ∧ Q_rm_nbl_2 Z  h0 n0 v U'.heap L ∧ FrameEnd U o U' L ({ frames := 0, cells := 0, slots := 0, locals := 0 } : Room).cells ({ frames := 0, cells := 0, slots := 0, locals := 0 } : Room).slots) := by
  refine MetFree.of_bodySF (plainFor_of_name pn_java_lang_StringUTF16) hisR ?_
  intro p e s m args below meth c s₁ Bd hml0 hP hK
  obtain ⟨rfl, hZ, hh⟩ := hP
  have hx := Bd.exec
  have hby := Bd.bytes
  have hml : c.maxLocals = 1 := hml0
  have hown : s.vm.findClass "java/lang/StringUTF16" = some m.cls := findClass_of_methodNamed Bd.named
  have hnm := (name_of_methodNamed Bd.named Bd.method).1
  have X0 : Stand p l e ({ frames := 0, cells := 0, slots := 0, locals := 0 } : Room) s m #[(.int (2 : Int32))] below meth c s₁ [] 0 0 := Stand.of_body Bd
  have e0 : s₁.heap = h0 := by rw [← hh, Bd.state]; rfl
  have N0 := Fr.nil n0
  have K00 : Keep h0 h0 [] := Keep.refl _ _
  have hlk0 : meth.locks = false := by first | assumption | exact BodyLoose.notSynchronized (by assumption) | exact Body.notSynchronized (by assumption)
  show Rch p e below s₁ (entryFrame m #[(.int (2 : Int32))] 1) (FinP s (Q_rm_nbl_2 Z  h0 n0) 0 0)
  refine Rch.cast (ef_rm_nbl_2 m ) ?_
  show Rch p e below s₁ (mkF m 0 #[.val (.int (2 : Int32))] []) _
  refine w_iloadN (pc' := 1) X0 hx hby djdk52m3_0 rfl rfl ?_
  refine w_ifYes (pc' := 12) X0 hx hby djdk52m3_1 (XT.i0_ge_t (by decide)) (by decide) ?_
  refine w_iloadN (pc' := 13) X0 hx hby djdk52m3_12 rfl rfl ?_
  refine Rch.st (fun _ k => Stand.ldcI X0 hx hown (mv hZ (hw _ (List.mem_of_getElem? (i := 73) rfl))) rfl (hb hby djdk52m3_13) k) ?_
  show Rch p e below s₁ (mkF m 15 #[.val (.int (2 : Int32))] [(.int (1073741823 : Int32)), (.int (2 : Int32))]) _
  refine w_icmpYes (pc' := 55) X0 hx hby djdk52m3_15 (XT.ii_lt_t (by decide)) (by decide) ?_
  refine w_iloadN (pc' := 56) X0 hx hby djdk52m3_55 rfl rfl ?_
  refine w_iconst (pc' := 57) (v := 1) X0 hx hby djdk52m3_56 rfl rfl ?_
  refine w_ishl (pc' := 58) X0 hx hby djdk52m3_57 rfl ?_
  have r301 : ((2 : Int32) <<< ((1 : Int32) &&& 31)) = (4 : Int32) := by decide
  rw [r301]
  show Rch p e below s₁ (mkF m 58 #[.val (.int (2 : Int32))] [(.int (4 : Int32))]) _
  exact Rch.retV X0 hx Bd.returns rfl (Or.inl ⟨rfl, by simp, _, rfl⟩) (hb hby djdk52m3_58) (by rw [e0]; exact ⟨rfl, N0, rfl⟩) (by decide) (by decide)

theorem ef_rm_nbf_2 (m : MethodId)   : entryFrame m #[(.int (2 : Int32))] 1 = mkF m 0 #[.val (.int (2 : Int32))] [] := by  first | (simp [entryFrame, mkF, argsToLocals, Value.category, maxLocals]; done) | rfl
def Q_rm_nbf_2 (Z : State)  (h0 : Heap) (n0 : Nat) (v : Option Value) (h : Heap) (L : List Loc) : Prop := ∃ (t : Addr) (kt : ClassId), (v = some (.ref t)) ∧ (Fr n0 L) ∧ (Keep h0 h []) ∧ (h0.size ≤ t) ∧ (Arv Z h t kt .byte (4 : Int32) [(.int (0 : Int32)), (.int (0 : Int32)), (.int (0 : Int32)), (.int (0 : Int32))] (.int (0 : Int32)))
set_option maxRecDepth 65536 in
set_option maxHeartbeats 40000000 in
theorem rm_nbf_2 (l : Launch) (Z : State) (a0 : Array Value) (hw : ∀ d ∈ tables_1, d.before a0 Z = true) (ws : List Jvm.Cond)  (h0 : Heap) (n0 : Nat) (Z0 : n0 ≤ h0.size)  :
    MetFree l (⟨"java/lang/StringUTF16", "newBytesFor", "(I)[B"⟩ : MethodName) (head1 (Jvm.Cond.code (⟨"java/lang/StringUTF16", "newBytesFor", "(I)[B"⟩ : MethodName) jdk_52_method_2_code 1 (some (.array .byte)) :: ws) ({ frames := 1, cells := 1, slots := 4, locals := 12 } : Room)) (fun a U => a = #[(.int (2 : Int32))] ∧ Z.Warmed39 U.vm ∧ U.heap = h0) (fun _ _ _ _ _ => True) (fun _ U o U' => ∃ v L, o = .returned v ∧ Q_rm_nbf_2 Z  h0 n0 v U'.heap L ∧ FrameEnd U o U' L ({ frames := 1, cells := 1, slots := 4, locals := 12 } : Room).cells ({ frames := 1, cells := 1, slots := 4, locals := 12 } : Room).slots) := by
  refine MetFree.of_bodySF (plainFor_of_name pn_java_lang_StringUTF16) hisR ?_
  intro p e s m args below meth c s₁ Bd hml0 hP hK
  obtain ⟨rfl, hZ, hh⟩ := hP
  have hx := Bd.exec
  have hby := Bd.bytes
  have hml : c.maxLocals = 1 := hml0
  have hown : s.vm.findClass "java/lang/StringUTF16" = some m.cls := findClass_of_methodNamed Bd.named
  have hnm := (name_of_methodNamed Bd.named Bd.method).1
  have X0 : Stand p l e ({ frames := 1, cells := 1, slots := 4, locals := 12 } : Room) s m #[(.int (2 : Int32))] below meth c s₁ [] 0 0 := Stand.of_body Bd
  have e0 : s₁.heap = h0 := by rw [← hh, Bd.state]; rfl
  have N0 := Fr.nil n0
  have K00 : Keep h0 h0 [] := Keep.refl _ _
  have hlk0 : meth.locks = false := by first | assumption | exact BodyLoose.notSynchronized (by assumption) | exact Body.notSynchronized (by assumption)
  show Rch p e below s₁ (entryFrame m #[(.int (2 : Int32))] 1) (FinP s (Q_rm_nbf_2 Z  h0 n0) 1 4)
  refine Rch.cast (ef_rm_nbf_2 m ) ?_
  show Rch p e below s₁ (mkF m 0 #[.val (.int (2 : Int32))] []) _
  refine w_iloadN (pc' := 1) X0 hx hby djdk52m2_0 rfl rfl ?_
  obtain ⟨_, _, ⟨T302, L302, k302, n302⟩, -, X302, ⟨Lc302, hQ302, l302, y302, z302⟩, st302⟩ := Jvm.LawKit.callS X0 hx (y := (⟨"java/lang/StringUTF16", "newBytesLength", "(I)I"⟩ : MethodName)) hown (mvT hZ (hw _ (List.mem_of_getElem? (i := 70) rfl))) (mvT hZ (hw _ (List.mem_of_getElem? (i := 71) rfl))) (mvT hZ (hw _ (List.mem_of_getElem? (i := 52) rfl))) (mvT hZ (hw _ (List.mem_of_getElem? (i := 72) rfl))) (by decide) (backOf (W := 0) (rm_nbl_2 l Z a0 hw []  h0 n0 Z0 ) hZ (hw _ (List.mem_of_getElem? (i := 72) rfl)) (hw _ (List.mem_of_getElem? (i := 52) rfl)) (by decide) (by decide)) (g := (mkF m 1 #[.val (.int (2 : Int32))] [(.int (2 : Int32))])) rfl (by rw [hml]; rfl) (argsL := [(.int (2 : Int32))]) (rest := []) (lenOf pd__I_I rfl) rfl (by show 2 * 0 + _ ≤ _; exact Nat.le_of_eq rfl) (hb hby djdk52m2_1) (fun _ _ => ⟨rfl, e0, (by decide : 0 + 0 ≤ _), (by decide : 0 + 0 ≤ _)⟩)
  dsimp only [Pt.U, Pt.locs, Pt.cells, Pt.slots] at X302 l302 y302 z302 st302 hQ302
  subst l302 y302 z302
  obtain ⟨rfl, NQ302, K302⟩ := hQ302
  have N303 := Fr.app N0 NQ302
  refine Rch.st (fun _ k => st302 _ k) ?_
  show Rch p e below T302 (mkF m 4 #[.val (.int (2 : Int32))] [(.int (4 : Int32))]) _
  obtain ⟨T304, h304, kc304, X304, e304, E304, A304, st304⟩ := newP X302 hx hZ (hw _ (List.mem_of_getElem? (i := 16) rfl)) K302 (g := (mkF m 4 #[.val (.int (2 : Int32))] [(.int (4 : Int32))])) rfl (hb hby djdk52m2_4) rfl (by decide : ¬ ((4 : Int32) < (0 : Int32))) (cap := 4) (by decide : (4 : Int32).toNatClampNeg ≤ 4) (by decide) (by decide) (by decide)
  obtain ⟨a304, g304⟩ : ∃ z, z = h0.size := ⟨_, rfl⟩
  rw [← g304] at A304 st304
  have ge305 : n0 ≤ a304 := Nat.le_trans Z0 (Nat.le_of_eq g304.symm)
  have Z307 := Nat.le_trans Z0 E304.1
  have Kp308 : Keep h0 h304 [] := K00.ext E304
  have f309 : Arv Z h304 a304 kc304 .byte (4 : Int32) [(.int (0 : Int32)), (.int (0 : Int32)), (.int (0 : Int32)), (.int (0 : Int32))] (.int (0 : Int32)) := (Arv.new A304 (by decide : ¬ ((4 : Int32) < (0 : Int32)))).pad (pad_rep [] (.int (0 : Int32)) 4)
  refine Rch.st (fun _ k => st304 _ k) ?_
  show Rch p e below T304 (mkF m 6 #[.val (.int (2 : Int32))] [(.ref a304)]) _
  exact Rch.retV X304 hx Bd.returns rfl (Or.inr (Or.inr (Or.inr (Or.inr ⟨rfl, rfl, rfl⟩)))) (hb hby djdk52m2_6) (by rw [e304]; exact ⟨a304, kc304, rfl, N303, Kp308, (Nat.le_trans K00.1 (Nat.le_of_eq g304.symm)), f309⟩) (by decide) (by decide)

theorem ef_rm_tob_2 (m : MethodId) (ca : Addr) (kc : ClassId) (cc0 : Int32) (cc1 : Int32)  : entryFrame m #[(.ref ca), (.int (0 : Int32)), (.int (2 : Int32))] 5 = mkF m 0 #[.val (.ref ca), .val (.int (0 : Int32)), .val (.int (2 : Int32)), .unset, .unset] [] := by  first | (simp [entryFrame, mkF, argsToLocals, Value.category, maxLocals]; done) | rfl
def Q_rm_tob_2 (Z : State) (ca : Addr) (kc : ClassId) (cc0 : Int32) (cc1 : Int32) (h0 : Heap) (n0 : Nat) (v : Option Value) (h : Heap) (L : List Loc) : Prop := ∃ (t : Addr) (kt : ClassId), (v = some (.ref t)) ∧ (Fr n0 L) ∧ (Keep h0 h []) ∧ (h0.size ≤ t) ∧ (Arv Z h t kt .byte (4 : Int32) [(.int (own_lo cc0)), (.int (own_hi cc0)), (.int (own_lo cc1)), (.int (own_hi cc1))] (.int (0 : Int32)))
set_option maxRecDepth 65536 in
set_option maxHeartbeats 40000000 in
theorem rm_tob_2 (l : Launch) (Z : State) (a0 : Array Value) (hw : ∀ d ∈ tables_1, d.before a0 Z = true) (ws : List Jvm.Cond) (ca : Addr) (kc : ClassId) (cc0 : Int32) (cc1 : Int32) (h0 : Heap) (n0 : Nat) (Z0 : n0 ≤ h0.size) (SA : Sta Z Z.heap "java/lang/StringUTF16" "$assertionsDisabled" "Z" (.int 1)) (SH : Sta Z Z.heap "java/lang/StringUTF16" "HI_BYTE_SHIFT" "I" (.int 0)) (SL : Sta Z Z.heap "java/lang/StringUTF16" "LO_BYTE_SHIFT" "I" (.int 8)) (f3 : Arv Z h0 ca kc .char (2 : Int32) [(.int cc0), (.int cc1)] (.int (0 : Int32))) (Old0 : OldL Z n0 h0) :
    MetFree l (⟨"java/lang/StringUTF16", "toBytes", "([CII)[B"⟩ : MethodName) (head1 (Jvm.Cond.code (⟨"java/lang/StringUTF16", "toBytes", "([CII)[B"⟩ : MethodName) jdk_52_method_14_code 5 (some (.array .byte)) :: ws) ({ frames := 2, cells := 1, slots := 4, locals := 24 } : Room)) (fun a U => a = #[(.ref ca), (.int (0 : Int32)), (.int (2 : Int32))] ∧ Z.Warmed39 U.vm ∧ U.heap = h0) (fun _ _ _ _ _ => True) (fun _ U o U' => ∃ v L, o = .returned v ∧ Q_rm_tob_2 Z ca kc cc0 cc1 h0 n0 v U'.heap L ∧ FrameEnd U o U' L ({ frames := 2, cells := 1, slots := 4, locals := 24 } : Room).cells ({ frames := 2, cells := 1, slots := 4, locals := 24 } : Room).slots) := by
  refine MetFree.of_bodySF (plainFor_of_name pn_java_lang_StringUTF16) hisR ?_
  intro p e s m args below meth c s₁ Bd hml0 hP hK
  obtain ⟨rfl, hZ, hh⟩ := hP
  have hx := Bd.exec
  have hby := Bd.bytes
  have hml : c.maxLocals = 5 := hml0
  have hown : s.vm.findClass "java/lang/StringUTF16" = some m.cls := findClass_of_methodNamed Bd.named
  have hnm := (name_of_methodNamed Bd.named Bd.method).1
  have X0 : Stand p l e ({ frames := 2, cells := 1, slots := 4, locals := 24 } : Room) s m #[(.ref ca), (.int (0 : Int32)), (.int (2 : Int32))] below meth c s₁ [] 0 0 := Stand.of_body Bd
  have e0 : s₁.heap = h0 := by rw [← hh, Bd.state]; rfl
  have N0 := Fr.nil n0
  have K00 : Keep h0 h0 [] := Keep.refl _ _
  have hlk0 : meth.locks = false := by first | assumption | exact BodyLoose.notSynchronized (by assumption) | exact Body.notSynchronized (by assumption)
  show Rch p e below s₁ (entryFrame m #[(.ref ca), (.int (0 : Int32)), (.int (2 : Int32))] 5) (FinP s (Q_rm_tob_2 Z ca kc cc0 cc1 h0 n0) 1 4)
  refine Rch.cast (ef_rm_tob_2 m ca kc cc0 cc1) ?_
  show Rch p e below s₁ (mkF m 0 #[.val (.ref ca), .val (.int (0 : Int32)), .val (.int (2 : Int32)), .unset, .unset] []) _
  refine w_iloadN (pc' := 1) X0 hx hby djdk52m14_0 rfl rfl ?_
  obtain ⟨_, _, ⟨T310, L310, k310, n310⟩, -, X310, ⟨Lc310, hQ310, l310, y310, z310⟩, st310⟩ := Jvm.LawKit.callS X0 hx (y := (⟨"java/lang/StringUTF16", "newBytesFor", "(I)[B"⟩ : MethodName)) hown (mvT hZ (hw _ (List.mem_of_getElem? (i := 67) rfl))) (mvT hZ (hw _ (List.mem_of_getElem? (i := 68) rfl))) (mvT hZ (hw _ (List.mem_of_getElem? (i := 52) rfl))) (mvT hZ (hw _ (List.mem_of_getElem? (i := 69) rfl))) (by decide) (backOf (W := 0) (rm_nbf_2 l Z a0 hw []  h0 n0 Z0 ) hZ (hw _ (List.mem_of_getElem? (i := 69) rfl)) (hw _ (List.mem_of_getElem? (i := 52) rfl)) (by decide) (by decide)) (g := (mkF m 1 #[.val (.ref ca), .val (.int (0 : Int32)), .val (.int (2 : Int32)), .unset, .unset] [(.int (2 : Int32))])) rfl (by rw [hml]; rfl) (argsL := [(.int (2 : Int32))]) (rest := []) (lenOf pd__I__B rfl) rfl (by show 2 * 0 + _ ≤ _; exact Nat.le_of_eq rfl) (hb hby djdk52m14_1) (fun _ _ => ⟨rfl, e0, (by decide : 0 + 1 ≤ _), (by decide : 0 + 4 ≤ _)⟩)
  dsimp only [Pt.U, Pt.locs, Pt.cells, Pt.slots] at X310 l310 y310 z310 st310 hQ310
  subst l310 y310 z310
  obtain ⟨t_310, kt_310, rfl, NQ310, K310, pq310_0, fq310_0⟩ := hQ310
  have N311 := Fr.app N0 NQ310
  have ne312 : ca ≠ t_310 := Nat.ne_of_lt (Nat.lt_of_lt_of_le f3.lt pq310_0)
  have ge313 : n0 ≤ t_310 := Nat.le_trans Z0 pq310_0
  have f314 : Arv Z T310.heap ca kc .char (2 : Int32) [(.int cc0), (.int cc1)] (.int (0 : Int32)) := f3.keep K310 nin0
  have Old315 := Old0.keep K310 all0
  have Kp316 : Keep h0 T310.heap [] := K00.trans K310 all0
  have Z317 := Nat.le_trans Z0 K310.1
  refine Rch.st (fun _ k => st310 _ k) ?_
  show Rch p e below T310 (mkF m 4 #[.val (.ref ca), .val (.int (0 : Int32)), .val (.int (2 : Int32)), .unset, .unset] [(.ref t_310)]) _
  refine w_astoreN (pc' := 5) (l' := #[.val (.ref ca), .val (.int (0 : Int32)), .val (.int (2 : Int32)), .val (.ref t_310), .unset]) X310 hx hby djdk52m14_4 rfl rfl rfl ?_
  refine w_iconst (pc' := 6) (v := 0) X310 hx hby djdk52m14_5 rfl rfl ?_
  refine w_istore (pc' := 8) (l' := #[.val (.ref ca), .val (.int (0 : Int32)), .val (.int (2 : Int32)), .val (.ref t_310), .val (.int (0 : Int32))]) X310 hx hby djdk52m14_6 rfl rfl ?_
  refine w_iload (pc' := 10) X310 hx hby djdk52m14_8 rfl rfl ?_
  refine w_iloadN (pc' := 11) X310 hx hby djdk52m14_10 rfl rfl ?_
  refine w_icmpNo (pc' := 14) X310 hx hby djdk52m14_11 (XT.ii_ge_f (by decide)) rfl ?_
  refine w_aloadN (pc' := 15) X310 hx hby djdk52m14_14 rfl rfl rfl ?_
  refine w_iload (pc' := 17) X310 hx hby djdk52m14_15 rfl rfl ?_
  refine w_aloadN (pc' := 18) X310 hx hby djdk52m14_17 rfl rfl rfl ?_
  refine w_iloadN (pc' := 19) X310 hx hby djdk52m14_18 rfl rfl ?_
  refine Rch.st (fun _ k => own_ldC X310 hx hZ (rfl : T310.heap = T310.heap) f314 (j := (0 : Int32)) ⟨by decide, by decide⟩ (by rfl) rfl rfl (hb hby djdk52m14_19) k) ?_
  show Rch p e below T310 (mkF m 20 #[.val (.ref ca), .val (.int (0 : Int32)), .val (.int (2 : Int32)), .val (.ref t_310), .val (.int (0 : Int32))] [(.int cc0), (.int (0 : Int32)), (.ref t_310)]) _
  obtain ⟨_, _, ⟨T318, L318, k318, n318⟩, -, X318, ⟨Lc318, hQ318, l318, y318, z318⟩, st318⟩ := Jvm.LawKit.callS X310 hx (y := (⟨"java/lang/StringUTF16", "putChar", "([BII)V"⟩ : MethodName)) hown (mvT hZ (hw _ (List.mem_of_getElem? (i := 74) rfl))) (mvT hZ (hw _ (List.mem_of_getElem? (i := 75) rfl))) (mvT hZ (hw _ (List.mem_of_getElem? (i := 52) rfl))) (mvT hZ (hw _ (List.mem_of_getElem? (i := 76) rfl))) (by decide) (backOf (W := 0) (rm_put_0 l Z a0 hw [] t_310 kt_310 (4 : Int32) ([(.int (0 : Int32)), (.int (0 : Int32)), (.int (0 : Int32)), (.int (0 : Int32))]) (.int (0 : Int32)) cc0 T310.heap n0 Z317 (SA) (SH) (SL) fq310_0 (ge313) (by decide) (by decide) (by decide : 1 < 4) Old315) hZ (hw _ (List.mem_of_getElem? (i := 76) rfl)) (hw _ (List.mem_of_getElem? (i := 52) rfl)) (by decide) (by decide)) (g := (mkF m 20 #[.val (.ref ca), .val (.int (0 : Int32)), .val (.int (2 : Int32)), .val (.ref t_310), .val (.int (0 : Int32))] [(.int cc0), (.int (0 : Int32)), (.ref t_310)])) rfl (by rw [hml]; rfl) (argsL := [(.ref t_310), (.int (0 : Int32)), (.int cc0)]) (rest := []) (lenOf pd___BII_V rfl) rfl (by show 2 * 0 + _ ≤ _; exact Nat.le_of_eq rfl) (hb hby djdk52m14_20) (fun _ _ => ⟨rfl, (rfl : T310.heap = T310.heap), (by decide : 1 + 0 ≤ _), (by decide : 4 + 0 ≤ _)⟩)
  dsimp only [Pt.U, Pt.locs, Pt.cells, Pt.slots] at X318 l318 y318 z318 st318 hQ318
  subst l318 y318 z318
  obtain ⟨rfl, NQ318, K318, fq318_0⟩ := hQ318
  have N319 := Fr.app N311 NQ318
  have f320 : Arv Z T318.heap ca kc .char (2 : Int32) [(.int cc0), (.int cc1)] (.int (0 : Int32)) := f314.keep K318 (ninS ne312 nin0)
  have Old321 := Old315.keep K318 (allS ge313 all0)
  have Kp322 : Keep h0 T318.heap [] := Kp316.trans K318 (allS (Or.inr (Nat.le_trans K00.1 pq310_0)) all0)
  have Z323 := Nat.le_trans Z317 K318.1
  refine Rch.st (fun _ k => st318 _ k) ?_
  show Rch p e below T318 (mkF m 23 #[.val (.ref ca), .val (.int (0 : Int32)), .val (.int (2 : Int32)), .val (.ref t_310), .val (.int (0 : Int32))] []) _
  have f324 : Arv Z T318.heap t_310 kt_310 .byte (4 : Int32) [(.int (own_lo cc0)), (.int (own_hi cc0)), (.int (0 : Int32)), (.int (0 : Int32))] (.int (0 : Int32)) := fq318_0
  refine w_iinc (pc' := 26) (w := (1 : Int32)) (l' := #[.val (.ref ca), .val (.int (1 : Int32)), .val (.int (2 : Int32)), .val (.ref t_310), .val (.int (0 : Int32))]) X318 hx hby djdk52m14_23 rfl (by decide) rfl rfl ?_
  refine w_iinc (pc' := 29) (w := (1 : Int32)) (l' := #[.val (.ref ca), .val (.int (1 : Int32)), .val (.int (2 : Int32)), .val (.ref t_310), .val (.int (1 : Int32))]) X318 hx hby djdk52m14_26 rfl (by decide) rfl rfl ?_
  refine w_goto (pc' := 8) X318 hx hby djdk52m14_29 (by decide) ?_
  refine w_iload (pc' := 10) X318 hx hby djdk52m14_8 rfl rfl ?_
  refine w_iloadN (pc' := 11) X318 hx hby djdk52m14_10 rfl rfl ?_
  refine w_icmpNo (pc' := 14) X318 hx hby djdk52m14_11 (XT.ii_ge_f (by decide)) rfl ?_
  refine w_aloadN (pc' := 15) X318 hx hby djdk52m14_14 rfl rfl rfl ?_
  refine w_iload (pc' := 17) X318 hx hby djdk52m14_15 rfl rfl ?_
  refine w_aloadN (pc' := 18) X318 hx hby djdk52m14_17 rfl rfl rfl ?_
  refine w_iloadN (pc' := 19) X318 hx hby djdk52m14_18 rfl rfl ?_
  refine Rch.st (fun _ k => own_ldC X318 hx hZ (rfl : T318.heap = T318.heap) f320 (j := (1 : Int32)) ⟨by decide, by decide⟩ (by rfl) rfl rfl (hb hby djdk52m14_19) k) ?_
  show Rch p e below T318 (mkF m 20 #[.val (.ref ca), .val (.int (1 : Int32)), .val (.int (2 : Int32)), .val (.ref t_310), .val (.int (1 : Int32))] [(.int cc1), (.int (1 : Int32)), (.ref t_310)]) _
  obtain ⟨_, _, ⟨T325, L325, k325, n325⟩, -, X325, ⟨Lc325, hQ325, l325, y325, z325⟩, st325⟩ := Jvm.LawKit.callS X318 hx (y := (⟨"java/lang/StringUTF16", "putChar", "([BII)V"⟩ : MethodName)) hown (mvT hZ (hw _ (List.mem_of_getElem? (i := 74) rfl))) (mvT hZ (hw _ (List.mem_of_getElem? (i := 75) rfl))) (mvT hZ (hw _ (List.mem_of_getElem? (i := 52) rfl))) (mvT hZ (hw _ (List.mem_of_getElem? (i := 76) rfl))) (by decide) (backOf (W := 0) (rm_put_1 l Z a0 hw [] t_310 kt_310 (4 : Int32) ([(.int (own_lo cc0)), (.int (own_hi cc0)), (.int (0 : Int32)), (.int (0 : Int32))]) (.int (0 : Int32)) cc1 T318.heap n0 Z323 (SA) (SH) (SL) f324 (ge313) (by decide) (by decide) (by decide : 3 < 4) Old321) hZ (hw _ (List.mem_of_getElem? (i := 76) rfl)) (hw _ (List.mem_of_getElem? (i := 52) rfl)) (by decide) (by decide)) (g := (mkF m 20 #[.val (.ref ca), .val (.int (1 : Int32)), .val (.int (2 : Int32)), .val (.ref t_310), .val (.int (1 : Int32))] [(.int cc1), (.int (1 : Int32)), (.ref t_310)])) rfl (by rw [hml]; rfl) (argsL := [(.ref t_310), (.int (1 : Int32)), (.int cc1)]) (rest := []) (lenOf pd___BII_V rfl) rfl (by show 2 * 0 + _ ≤ _; exact Nat.le_of_eq rfl) (hb hby djdk52m14_20) (fun _ _ => ⟨rfl, (rfl : T318.heap = T318.heap), (by decide : 1 + 0 ≤ _), (by decide : 4 + 0 ≤ _)⟩)
  dsimp only [Pt.U, Pt.locs, Pt.cells, Pt.slots] at X325 l325 y325 z325 st325 hQ325
  subst l325 y325 z325
  obtain ⟨rfl, NQ325, K325, fq325_0⟩ := hQ325
  have N326 := Fr.app N319 NQ325
  have f327 : Arv Z T325.heap ca kc .char (2 : Int32) [(.int cc0), (.int cc1)] (.int (0 : Int32)) := f320.keep K325 (ninS ne312 nin0)
  have Old328 := Old321.keep K325 (allS ge313 all0)
  have Kp329 : Keep h0 T325.heap [] := Kp322.trans K325 (allS (Or.inr (Nat.le_trans K00.1 pq310_0)) all0)
  have Z330 := Nat.le_trans Z323 K325.1
  refine Rch.st (fun _ k => st325 _ k) ?_
  show Rch p e below T325 (mkF m 23 #[.val (.ref ca), .val (.int (1 : Int32)), .val (.int (2 : Int32)), .val (.ref t_310), .val (.int (1 : Int32))] []) _
  have f331 : Arv Z T325.heap t_310 kt_310 .byte (4 : Int32) [(.int (own_lo cc0)), (.int (own_hi cc0)), (.int (own_lo cc1)), (.int (own_hi cc1))] (.int (0 : Int32)) := fq325_0
  refine w_iinc (pc' := 26) (w := (2 : Int32)) (l' := #[.val (.ref ca), .val (.int (2 : Int32)), .val (.int (2 : Int32)), .val (.ref t_310), .val (.int (1 : Int32))]) X325 hx hby djdk52m14_23 rfl (by decide) rfl rfl ?_
  refine w_iinc (pc' := 29) (w := (2 : Int32)) (l' := #[.val (.ref ca), .val (.int (2 : Int32)), .val (.int (2 : Int32)), .val (.ref t_310), .val (.int (2 : Int32))]) X325 hx hby djdk52m14_26 rfl (by decide) rfl rfl ?_
  refine w_goto (pc' := 8) X325 hx hby djdk52m14_29 (by decide) ?_
  refine w_iload (pc' := 10) X325 hx hby djdk52m14_8 rfl rfl ?_
  refine w_iloadN (pc' := 11) X325 hx hby djdk52m14_10 rfl rfl ?_
  refine w_icmpYes (pc' := 32) X325 hx hby djdk52m14_11 (XT.ii_ge_t (by decide)) (by decide) ?_
  refine w_aloadN (pc' := 33) X325 hx hby djdk52m14_32 rfl rfl rfl ?_
  exact Rch.retV X325 hx Bd.returns rfl (Or.inr (Or.inr (Or.inr (Or.inr ⟨rfl, rfl, rfl⟩)))) (hb hby djdk52m14_33) (by rw [(rfl : T325.heap = T325.heap)]; exact ⟨t_310, kt_310, rfl, N326, Kp329, (Nat.le_trans K00.1 pq310_0), f331⟩) (by decide) (by decide)

theorem ef_rm_cmp5_2_0 (m : MethodId) (ca : Addr) (kc : ClassId) (bd : Addr) (kd : ClassId) (cc0 : Int32) (cc1 : Int32)  : entryFrame m #[(.ref ca), (.int (0 : Int32)), (.ref bd), (.int (0 : Int32)), (.int (2 : Int32))] 7 = mkF m 0 #[.val (.ref ca), .val (.int (0 : Int32)), .val (.ref bd), .val (.int (0 : Int32)), .val (.int (2 : Int32)), .unset, .unset] [] := by  first | (simp [entryFrame, mkF, argsToLocals, Value.category, maxLocals]; done) | rfl
def Q_rm_cmp5_2_0 (Z : State) (ca : Addr) (kc : ClassId) (bd : Addr) (kd : ClassId) (cc0 : Int32) (cc1 : Int32) (h0 : Heap) (n0 : Nat) (v : Option Value) (h : Heap) (L : List Loc) : Prop := (v = some (.int (0 : Int32))) ∧ (Fr n0 L) ∧ (Keep h0 h [bd])
set_option maxRecDepth 65536 in
set_option maxHeartbeats 40000000 in
theorem rm_cmp5_2_0 (l : Launch) (Z : State) (a0 : Array Value) (hw : ∀ d ∈ tables_1, d.before a0 Z = true) (ws : List Jvm.Cond) (ca : Addr) (kc : ClassId) (bd : Addr) (kd : ClassId) (cc0 : Int32) (cc1 : Int32) (h0 : Heap) (n0 : Nat) (Z0 : n0 ≤ h0.size) (f0 : Arv Z h0 ca kc .char (2 : Int32) [(.int cc0), (.int cc1)] (.int (0 : Int32))) (f1 : Arv Z h0 bd kd .byte (2 : Int32) [(.int (0 : Int32)), (.int (0 : Int32))] (.int (0 : Int32))) (gd : n0 ≤ bd) (ncd : ca ≠ bd) (hx0 : (255 : Int32) < cc0) :
    MetFree l (⟨"java/lang/StringUTF16", "compress", "([CI[BII)I"⟩ : MethodName) (head1 (Jvm.Cond.code (⟨"java/lang/StringUTF16", "compress", "([CI[BII)I"⟩ : MethodName) jdk_52_method_21_code 7 (some .int) :: ws) ({ frames := 0, cells := 0, slots := 0, locals := 0 } : Room)) (fun a U => a = #[(.ref ca), (.int (0 : Int32)), (.ref bd), (.int (0 : Int32)), (.int (2 : Int32))] ∧ Z.Warmed39 U.vm ∧ U.heap = h0) (fun _ _ _ _ _ => True) (fun _ U o U' => ∃ v L, o = .returned v ∧ Q_rm_cmp5_2_0 Z ca kc bd kd cc0 cc1 h0 n0 v U'.heap L ∧ FrameEnd U o U' L ({ frames := 0, cells := 0, slots := 0, locals := 0 } : Room).cells ({ frames := 0, cells := 0, slots := 0, locals := 0 } : Room).slots) := by
  refine MetFree.of_bodySF (plainFor_of_name pn_java_lang_StringUTF16) hisR ?_
  intro p e s m args below meth c s₁ Bd hml0 hP hK
  obtain ⟨rfl, hZ, hh⟩ := hP
  have hx := Bd.exec
  have hby := Bd.bytes
  have hml : c.maxLocals = 7 := hml0
  have hown : s.vm.findClass "java/lang/StringUTF16" = some m.cls := findClass_of_methodNamed Bd.named
  have hnm := (name_of_methodNamed Bd.named Bd.method).1
  have X0 : Stand p l e ({ frames := 0, cells := 0, slots := 0, locals := 0 } : Room) s m #[(.ref ca), (.int (0 : Int32)), (.ref bd), (.int (0 : Int32)), (.int (2 : Int32))] below meth c s₁ [] 0 0 := Stand.of_body Bd
  have e0 : s₁.heap = h0 := by rw [← hh, Bd.state]; rfl
  have N0 := Fr.nil n0
  have K00 : Keep h0 h0 [bd] := Keep.refl _ _
  have hlk0 : meth.locks = false := by first | assumption | exact BodyLoose.notSynchronized (by assumption) | exact Body.notSynchronized (by assumption)
  show Rch p e below s₁ (entryFrame m #[(.ref ca), (.int (0 : Int32)), (.ref bd), (.int (0 : Int32)), (.int (2 : Int32))] 7) (FinP s (Q_rm_cmp5_2_0 Z ca kc bd kd cc0 cc1 h0 n0) 0 0)
  refine Rch.cast (ef_rm_cmp5_2_0 m ca kc bd kd cc0 cc1) ?_
  show Rch p e below s₁ (mkF m 0 #[.val (.ref ca), .val (.int (0 : Int32)), .val (.ref bd), .val (.int (0 : Int32)), .val (.int (2 : Int32)), .unset, .unset] []) _
  refine w_iconst (pc' := 1) (v := 0) X0 hx hby djdk52m21_0 rfl rfl ?_
  refine w_istore (pc' := 3) (l' := #[.val (.ref ca), .val (.int (0 : Int32)), .val (.ref bd), .val (.int (0 : Int32)), .val (.int (2 : Int32)), .val (.int (0 : Int32)), .unset]) X0 hx hby djdk52m21_1 rfl rfl ?_
  refine w_iload (pc' := 5) X0 hx hby djdk52m21_3 rfl rfl ?_
  refine w_iload (pc' := 7) X0 hx hby djdk52m21_5 rfl rfl ?_
  refine w_icmpNo (pc' := 10) X0 hx hby djdk52m21_7 (XT.ii_ge_f (by decide)) rfl ?_
  refine w_aloadN (pc' := 11) X0 hx hby djdk52m21_10 rfl rfl rfl ?_
  refine w_iloadN (pc' := 12) X0 hx hby djdk52m21_11 rfl rfl ?_
  refine Rch.st (fun _ k => own_ldC X0 hx hZ e0 f0 (j := (0 : Int32)) ⟨by decide, by decide⟩ (by rfl) rfl rfl (hb hby djdk52m21_12) k) ?_
  show Rch p e below s₁ (mkF m 13 #[.val (.ref ca), .val (.int (0 : Int32)), .val (.ref bd), .val (.int (0 : Int32)), .val (.int (2 : Int32)), .val (.int (0 : Int32)), .unset] [(.int cc0)]) _
  refine w_istore (pc' := 15) (l' := #[.val (.ref ca), .val (.int (0 : Int32)), .val (.ref bd), .val (.int (0 : Int32)), .val (.int (2 : Int32)), .val (.int (0 : Int32)), .val (.int cc0)]) X0 hx hby djdk52m21_13 rfl rfl ?_
  refine w_iload (pc' := 17) X0 hx hby djdk52m21_15 rfl rfl ?_
  refine w_sipush (pc' := 20) (v := 255) X0 hx hby djdk52m21_17 rfl rfl ?_
  refine w_icmpNo (pc' := 23) X0 hx hby djdk52m21_20 (XT.ii_le_f (hx0)) rfl ?_
  refine w_iload (pc' := 25) X0 hx hby djdk52m21_23 rfl rfl ?_
  exact Rch.retV X0 hx Bd.returns rfl (Or.inl ⟨rfl, by simp, _, rfl⟩) (hb hby djdk52m21_25) (by rw [e0]; exact ⟨rfl, N0, K00⟩) (by decide) (by decide)

theorem ef_rm_cmp3_2_0 (m : MethodId) (ca : Addr) (kc : ClassId) (cc0 : Int32) (cc1 : Int32)  : entryFrame m #[(.ref ca), (.int (0 : Int32)), (.int (2 : Int32))] 6 = mkF m 0 #[.val (.ref ca), .val (.int (0 : Int32)), .val (.int (2 : Int32)), .unset, .unset, .unset] [] := by  first | (simp [entryFrame, mkF, argsToLocals, Value.category, maxLocals]; done) | rfl
def Q_rm_cmp3_2_0 (Z : State) (ca : Addr) (kc : ClassId) (cc0 : Int32) (cc1 : Int32) (h0 : Heap) (n0 : Nat) (v : Option Value) (h : Heap) (L : List Loc) : Prop := ∃ (t : Addr) (kt : ClassId), (v = some (.ref t)) ∧ (Fr n0 L) ∧ (Keep h0 h []) ∧ (h0.size ≤ t) ∧ (Arv Z h t kt .byte (4 : Int32) [(.int (own_lo cc0)), (.int (own_hi cc0)), (.int (own_lo cc1)), (.int (own_hi cc1))] (.int (0 : Int32)))
set_option maxRecDepth 65536 in
set_option maxHeartbeats 40000000 in
theorem rm_cmp3_2_0 (l : Launch) (Z : State) (a0 : Array Value) (hw : ∀ d ∈ tables_1, d.before a0 Z = true) (ws : List Jvm.Cond) (ca : Addr) (kc : ClassId) (cc0 : Int32) (cc1 : Int32) (h0 : Heap) (n0 : Nat) (Z0 : n0 ≤ h0.size) (SA : Sta Z Z.heap "java/lang/StringUTF16" "$assertionsDisabled" "Z" (.int 1)) (SH : Sta Z Z.heap "java/lang/StringUTF16" "HI_BYTE_SHIFT" "I" (.int 0)) (SL : Sta Z Z.heap "java/lang/StringUTF16" "LO_BYTE_SHIFT" "I" (.int 8)) (f3 : Arv Z h0 ca kc .char (2 : Int32) [(.int cc0), (.int cc1)] (.int (0 : Int32))) (hx0 : (255 : Int32) < cc0) (hn0 : ¬ cc0 < 0) (hm0 : ¬ (65535 : Int32) < cc0) (Old0 : OldL Z n0 h0) :
    MetFree l (⟨"java/lang/StringUTF16", "compress", "([CII)[B"⟩ : MethodName) (head1 (Jvm.Cond.code (⟨"java/lang/StringUTF16", "compress", "([CII)[B"⟩ : MethodName) jdk_52_method_16_code 6 (some (.array .byte)) :: ws) ({ frames := 3, cells := 2, slots := 6, locals := 40 } : Room)) (fun a U => a = #[(.ref ca), (.int (0 : Int32)), (.int (2 : Int32))] ∧ Z.Warmed39 U.vm ∧ U.heap = h0) (fun _ _ _ _ _ => True) (fun _ U o U' => ∃ v L, o = .returned v ∧ Q_rm_cmp3_2_0 Z ca kc cc0 cc1 h0 n0 v U'.heap L ∧ FrameEnd U o U' L ({ frames := 3, cells := 2, slots := 6, locals := 40 } : Room).cells ({ frames := 3, cells := 2, slots := 6, locals := 40 } : Room).slots) := by
  refine MetFree.of_bodySF (plainFor_of_name pn_java_lang_StringUTF16) hisR ?_
  intro p e s m args below meth c s₁ Bd hml0 hP hK
  obtain ⟨rfl, hZ, hh⟩ := hP
  have hx := Bd.exec
  have hby := Bd.bytes
  have hml : c.maxLocals = 6 := hml0
  have hown : s.vm.findClass "java/lang/StringUTF16" = some m.cls := findClass_of_methodNamed Bd.named
  have hnm := (name_of_methodNamed Bd.named Bd.method).1
  have X0 : Stand p l e ({ frames := 3, cells := 2, slots := 6, locals := 40 } : Room) s m #[(.ref ca), (.int (0 : Int32)), (.int (2 : Int32))] below meth c s₁ [] 0 0 := Stand.of_body Bd
  have e0 : s₁.heap = h0 := by rw [← hh, Bd.state]; rfl
  have N0 := Fr.nil n0
  have K00 : Keep h0 h0 [] := Keep.refl _ _
  have hlk0 : meth.locks = false := by first | assumption | exact BodyLoose.notSynchronized (by assumption) | exact Body.notSynchronized (by assumption)
  show Rch p e below s₁ (entryFrame m #[(.ref ca), (.int (0 : Int32)), (.int (2 : Int32))] 6) (FinP s (Q_rm_cmp3_2_0 Z ca kc cc0 cc1 h0 n0) 2 6)
  refine Rch.cast (ef_rm_cmp3_2_0 m ca kc cc0 cc1) ?_
  show Rch p e below s₁ (mkF m 0 #[.val (.ref ca), .val (.int (0 : Int32)), .val (.int (2 : Int32)), .unset, .unset, .unset] []) _
  refine w_iloadN (pc' := 1) X0 hx hby djdk52m16_0 rfl rfl ?_
  obtain ⟨T332, h332, kc332, X332, e332, E332, A332, st332⟩ := newP X0 hx hZ (hw _ (List.mem_of_getElem? (i := 16) rfl)) e0 (g := (mkF m 1 #[.val (.ref ca), .val (.int (0 : Int32)), .val (.int (2 : Int32)), .unset, .unset, .unset] [(.int (2 : Int32))])) rfl (hb hby djdk52m16_1) rfl (by decide : ¬ ((2 : Int32) < (0 : Int32))) (cap := 2) (by decide : (2 : Int32).toNatClampNeg ≤ 2) (by decide) (by decide) (by decide)
  obtain ⟨a332, g332⟩ : ∃ z, z = h0.size := ⟨_, rfl⟩
  rw [← g332] at A332 st332
  have ne333 : ca ≠ a332 := by rw [g332]; exact Nat.ne_of_lt f3.lt
  have ge334 : n0 ≤ a332 := Nat.le_trans Z0 (Nat.le_of_eq g332.symm)
  have f336 : Arv Z h332 ca kc .char (2 : Int32) [(.int cc0), (.int cc1)] (.int (0 : Int32)) := f3.ext E332
  have Old337 := Old0.ext E332
  have Z338 := Nat.le_trans Z0 E332.1
  have Kp339 : Keep h0 h332 [] := K00.ext E332
  have f340 : Arv Z h332 a332 kc332 .byte (2 : Int32) [(.int (0 : Int32)), (.int (0 : Int32))] (.int (0 : Int32)) := (Arv.new A332 (by decide : ¬ ((2 : Int32) < (0 : Int32)))).pad (pad_rep [] (.int (0 : Int32)) 2)
  refine Rch.st (fun _ k => st332 _ k) ?_
  show Rch p e below T332 (mkF m 3 #[.val (.ref ca), .val (.int (0 : Int32)), .val (.int (2 : Int32)), .unset, .unset, .unset] [(.ref a332)]) _
  refine w_astoreN (pc' := 4) (l' := #[.val (.ref ca), .val (.int (0 : Int32)), .val (.int (2 : Int32)), .val (.ref a332), .unset, .unset]) X332 hx hby djdk52m16_3 rfl rfl rfl ?_
  refine w_aloadN (pc' := 5) X332 hx hby djdk52m16_4 rfl rfl rfl ?_
  refine w_iloadN (pc' := 6) X332 hx hby djdk52m16_5 rfl rfl ?_
  refine w_aloadN (pc' := 7) X332 hx hby djdk52m16_6 rfl rfl rfl ?_
  refine w_iconst (pc' := 8) (v := 0) X332 hx hby djdk52m16_7 rfl rfl ?_
  refine w_iloadN (pc' := 9) X332 hx hby djdk52m16_8 rfl rfl ?_
  obtain ⟨_, _, ⟨T341, L341, k341, n341⟩, -, X341, ⟨Lc341, hQ341, l341, y341, z341⟩, st341⟩ := Jvm.LawKit.callS X332 hx (y := (⟨"java/lang/StringUTF16", "compress", "([CI[BII)I"⟩ : MethodName)) hown (mvT hZ (hw _ (List.mem_of_getElem? (i := 54) rfl))) (mvT hZ (hw _ (List.mem_of_getElem? (i := 55) rfl))) (mvT hZ (hw _ (List.mem_of_getElem? (i := 52) rfl))) (mvT hZ (hw _ (List.mem_of_getElem? (i := 56) rfl))) (by decide) (backOf (W := 0) (rm_cmp5_2_0 l Z a0 hw [] ca kc a332 kc332 cc0 cc1 h332 n0 Z338 f336 f340 (ge334) (ne333) (hx0)) hZ (hw _ (List.mem_of_getElem? (i := 56) rfl)) (hw _ (List.mem_of_getElem? (i := 52) rfl)) (by decide) (by decide)) (g := (mkF m 9 #[.val (.ref ca), .val (.int (0 : Int32)), .val (.int (2 : Int32)), .val (.ref a332), .unset, .unset] [(.int (2 : Int32)), (.int (0 : Int32)), (.ref a332), (.int (0 : Int32)), (.ref ca)])) rfl (by rw [hml]; rfl) (argsL := [(.ref ca), (.int (0 : Int32)), (.ref a332), (.int (0 : Int32)), (.int (2 : Int32))]) (rest := []) (lenOf pd___CI_BII_I rfl) rfl (by show 2 * 0 + _ ≤ _; exact Nat.le_of_eq rfl) (hb hby djdk52m16_9) (fun _ _ => ⟨rfl, e332, (by decide : 1 + 0 ≤ _), (by decide : 2 + 0 ≤ _)⟩)
  dsimp only [Pt.U, Pt.locs, Pt.cells, Pt.slots] at X341 l341 y341 z341 st341 hQ341
  subst l341 y341 z341
  obtain ⟨rfl, NQ341, K341⟩ := hQ341
  have N342 := Fr.app N0 NQ341
  have f343 : Arv Z T341.heap ca kc .char (2 : Int32) [(.int cc0), (.int cc1)] (.int (0 : Int32)) := f336.keep K341 (ninS ne333 nin0)
  have Old344 := Old337.keep K341 (allS ge334 all0)
  have Kp345 : Keep h0 T341.heap [] := Kp339.trans K341 (allS (Or.inr (Nat.le_trans K00.1 (Nat.le_of_eq g332.symm))) all0)
  have Z346 := Nat.le_trans Z338 K341.1
  refine Rch.st (fun _ k => st341 _ k) ?_
  show Rch p e below T341 (mkF m 12 #[.val (.ref ca), .val (.int (0 : Int32)), .val (.int (2 : Int32)), .val (.ref a332), .unset, .unset] [(.int (0 : Int32))]) _
  refine w_istore (pc' := 14) (l' := #[.val (.ref ca), .val (.int (0 : Int32)), .val (.int (2 : Int32)), .val (.ref a332), .val (.int (0 : Int32)), .unset]) X341 hx hby djdk52m16_12 rfl rfl ?_
  refine w_iload (pc' := 16) X341 hx hby djdk52m16_14 rfl rfl ?_
  refine w_iloadN (pc' := 17) X341 hx hby djdk52m16_16 rfl rfl ?_
  refine w_icmpNo (pc' := 20) X341 hx hby djdk52m16_17 (XT.ii_eq_f (by decide)) rfl ?_
  refine w_aloadN (pc' := 21) X341 hx hby djdk52m16_20 rfl rfl rfl ?_
  refine w_iloadN (pc' := 22) X341 hx hby djdk52m16_21 rfl rfl ?_
  refine w_iloadN (pc' := 23) X341 hx hby djdk52m16_22 rfl rfl ?_
  obtain ⟨_, _, ⟨T347, L347, k347, n347⟩, -, X347, ⟨Lc347, hQ347, l347, y347, z347⟩, st347⟩ := Jvm.LawKit.callS X341 hx (y := (⟨"java/lang/StringUTF16", "toBytes", "([CII)[B"⟩ : MethodName)) hown (mvT hZ (hw _ (List.mem_of_getElem? (i := 64) rfl))) (mvT hZ (hw _ (List.mem_of_getElem? (i := 65) rfl))) (mvT hZ (hw _ (List.mem_of_getElem? (i := 52) rfl))) (mvT hZ (hw _ (List.mem_of_getElem? (i := 66) rfl))) (by decide) (backOf (W := 0) (rm_tob_2 l Z a0 hw [] ca kc cc0 cc1 T341.heap n0 Z346 (SA) (SH) (SL) f343 Old344) hZ (hw _ (List.mem_of_getElem? (i := 66) rfl)) (hw _ (List.mem_of_getElem? (i := 52) rfl)) (by decide) (by decide)) (g := (mkF m 23 #[.val (.ref ca), .val (.int (0 : Int32)), .val (.int (2 : Int32)), .val (.ref a332), .val (.int (0 : Int32)), .unset] [(.int (2 : Int32)), (.int (0 : Int32)), (.ref ca)])) rfl (by rw [hml]; rfl) (argsL := [(.ref ca), (.int (0 : Int32)), (.int (2 : Int32))]) (rest := []) (lenOf pd___CII__B rfl) rfl (by show 2 * 0 + _ ≤ _; exact Nat.le_of_eq rfl) (hb hby djdk52m16_23) (fun _ _ => ⟨rfl, (rfl : T341.heap = T341.heap), (by decide : 1 + 1 ≤ _), (by decide : 2 + 4 ≤ _)⟩)
  dsimp only [Pt.U, Pt.locs, Pt.cells, Pt.slots] at X347 l347 y347 z347 st347 hQ347
  subst l347 y347 z347
  obtain ⟨t_347, kt_347, rfl, NQ347, K347, pq347_0, fq347_0⟩ := hQ347
  have N348 := Fr.app N342 NQ347
  have ne349 : ca ≠ t_347 := Nat.ne_of_lt (Nat.lt_of_lt_of_le f343.lt pq347_0)
  have ge350 : n0 ≤ t_347 := Nat.le_trans Z346 pq347_0
  have f351 : Arv Z T347.heap ca kc .char (2 : Int32) [(.int cc0), (.int cc1)] (.int (0 : Int32)) := f343.keep K347 nin0
  have Old352 := Old344.keep K347 all0
  have Kp353 : Keep h0 T347.heap [] := Kp345.trans K347 all0
  have Z354 := Nat.le_trans Z346 K347.1
  refine Rch.st (fun _ k => st347 _ k) ?_
  show Rch p e below T347 (mkF m 26 #[.val (.ref ca), .val (.int (0 : Int32)), .val (.int (2 : Int32)), .val (.ref a332), .val (.int (0 : Int32)), .unset] [(.ref t_347)]) _
  refine w_astore (pc' := 28) (l' := #[.val (.ref ca), .val (.int (0 : Int32)), .val (.int (2 : Int32)), .val (.ref a332), .val (.int (0 : Int32)), .val (.ref t_347)]) X347 hx hby djdk52m16_26 rfl rfl rfl ?_
  refine w_aload (pc' := 30) X347 hx hby djdk52m16_28 rfl rfl rfl ?_
  refine w_iload (pc' := 32) X347 hx hby djdk52m16_30 rfl rfl ?_
  obtain ⟨_, _, ⟨T355, L355, k355, n355⟩, -, X355, ⟨Lc355, hQ355, l355, y355, z355⟩, st355⟩ := Jvm.LawKit.callS X347 hx (y := (⟨"java/lang/StringUTF16", "getChar", "([BI)C"⟩ : MethodName)) hown (mvT hZ (hw _ (List.mem_of_getElem? (i := 80) rfl))) (mvT hZ (hw _ (List.mem_of_getElem? (i := 81) rfl))) (mvT hZ (hw _ (List.mem_of_getElem? (i := 52) rfl))) (mvT hZ (hw _ (List.mem_of_getElem? (i := 82) rfl))) (by decide) (backOf (W := 0) (rm_get_0 l Z a0 hw [] t_347 kt_347 (4 : Int32) ([(.int (own_lo cc0)), (.int (own_hi cc0)), (.int (own_lo cc1)), (.int (own_hi cc1))]) (.int (0 : Int32)) (own_lo cc0) (own_hi cc0) T347.heap n0 Z354 (SA) (SH) (SL) fq347_0 (by decide) (by decide) (rfl) (rfl) Old352) hZ (hw _ (List.mem_of_getElem? (i := 82) rfl)) (hw _ (List.mem_of_getElem? (i := 52) rfl)) (by decide) (by decide)) (g := (mkF m 32 #[.val (.ref ca), .val (.int (0 : Int32)), .val (.int (2 : Int32)), .val (.ref a332), .val (.int (0 : Int32)), .val (.ref t_347)] [(.int (0 : Int32)), (.ref t_347)])) rfl (by rw [hml]; rfl) (argsL := [(.ref t_347), (.int (0 : Int32))]) (rest := []) (lenOf pd___BI_C rfl) rfl (by show 2 * 0 + _ ≤ _; exact Nat.le_of_eq rfl) (hb hby djdk52m16_32) (fun _ _ => ⟨rfl, (rfl : T347.heap = T347.heap), (by decide : 2 + 0 ≤ _), (by decide : 6 + 0 ≤ _)⟩)
  dsimp only [Pt.U, Pt.locs, Pt.cells, Pt.slots] at X355 l355 y355 z355 st355 hQ355
  subst l355 y355 z355
  obtain ⟨rfl, NQ355, K355⟩ := hQ355
  have N356 := Fr.app N348 NQ355
  refine Rch.st (fun _ k => st355 _ k) ?_
  show Rch p e below T355 (mkF m 35 #[.val (.ref ca), .val (.int (0 : Int32)), .val (.int (2 : Int32)), .val (.ref a332), .val (.int (0 : Int32)), .val (.ref t_347)] [(.int (own_gc (own_lo cc0) (own_hi cc0)))]) _
  have r357 : (own_gc (own_lo cc0) (own_hi cc0)) = cc0 := own_getput hn0 hm0
  rw [r357]
  show Rch p e below T355 (mkF m 35 #[.val (.ref ca), .val (.int (0 : Int32)), .val (.int (2 : Int32)), .val (.ref a332), .val (.int (0 : Int32)), .val (.ref t_347)] [(.int cc0)]) _
  refine w_sipush (pc' := 38) (v := 255) X355 hx hby djdk52m16_35 rfl rfl ?_
  refine w_icmpYes (pc' := 54) X355 hx hby djdk52m16_38 (XT.ii_gt_t (hx0)) (by decide) ?_
  refine w_aload (pc' := 56) X355 hx hby djdk52m16_54 rfl rfl rfl ?_
  exact Rch.retV X355 hx Bd.returns rfl (Or.inr (Or.inr (Or.inr (Or.inr ⟨rfl, rfl, rfl⟩)))) (hb hby djdk52m16_56) (by rw [K355]; exact ⟨t_347, kt_347, rfl, N356, Kp353, (Nat.le_trans Kp345.1 pq347_0), fq347_0⟩) (by decide) (by decide)

theorem ef_rm_init4_2_0 (m : MethodId) (G1 : Int32) (a5 : Addr) (ca : Addr) (kc : ClassId) (cc0 : Int32) (cc1 : Int32)  : entryFrame m #[(.ref a5), (.ref ca), (.int (0 : Int32)), (.int (2 : Int32)), .null] 6 = mkF m 0 #[.val (.ref a5), .val (.ref ca), .val (.int (0 : Int32)), .val (.int (2 : Int32)), .val .null, .unset] [] := by  first | (simp [entryFrame, mkF, argsToLocals, Value.category, maxLocals]; done) | rfl
def Q_rm_init4_2_0 (Z : State) (G1 : Int32) (a5 : Addr) (ca : Addr) (kc : ClassId) (cc0 : Int32) (cc1 : Int32) (h0 : Heap) (n0 : Nat) (v : Option Value) (h : Heap) (L : List Loc) : Prop := ∃ (t : Addr) (kt : ClassId), (v = none) ∧ (Fr n0 L) ∧ (Keep h0 h [a5]) ∧ (h0.size ≤ t) ∧ (Fld Z h a5 "java/lang/String" "coder" "B" (.int (1 : Int32))) ∧ (Fld Z h a5 "java/lang/String" "value" "[B" (.ref t)) ∧ (Arv Z h t kt .byte (4 : Int32) [(.int (own_lo cc0)), (.int (own_hi cc0)), (.int (own_lo cc1)), (.int (own_hi cc1))] (.int (0 : Int32)))
set_option maxRecDepth 65536 in
set_option maxHeartbeats 40000000 in
theorem rm_init4_2_0 (l : Launch) (Z : State) (a0 : Array Value) (hw : ∀ d ∈ tables_1, d.before a0 Z = true) (ws : List Jvm.Cond) (G1 : Int32) (a5 : Addr) (ca : Addr) (kc : ClassId) (cc0 : Int32) (cc1 : Int32) (h0 : Heap) (n0 : Nat) (Z0 : n0 ≤ h0.size) (O2 : Sta Z Z.heap "java/lang/String" "COMPACT_STRINGS" "Z" (.int G1)) (P5 : ¬ G1 = 0) (SA : Sta Z Z.heap "java/lang/StringUTF16" "$assertionsDisabled" "Z" (.int 1)) (SH : Sta Z Z.heap "java/lang/StringUTF16" "HI_BYTE_SHIFT" "I" (.int 0)) (SL : Sta Z Z.heap "java/lang/StringUTF16" "LO_BYTE_SHIFT" "I" (.int 8)) (f5 : Exa Z h0 a5 "java/lang/String") (f6 : Fld Z h0 a5 "java/lang/String" "coder" "B" (.int (0 : Int32))) (f7 : Fld Z h0 a5 "java/lang/String" "value" "[B" .null) (f8 : Arv Z h0 ca kc .char (2 : Int32) [(.int cc0), (.int cc1)] (.int (0 : Int32))) (ga : n0 ≤ a5) (nca : a5 ≠ ca) (hx0 : (255 : Int32) < cc0) (hn0 : ¬ cc0 < 0) (hm0 : ¬ (65535 : Int32) < cc0) (Old0 : OldL Z n0 h0) :
    MetFree l (⟨"java/lang/String", "<init>", "([CIILjava/lang/Void;)V"⟩ : MethodName) (head1 (Jvm.Cond.code (⟨"java/lang/String", "<init>", "([CIILjava/lang/Void;)V"⟩ : MethodName) jdk_42_method_149_code 6 none :: ws) ({ frames := 4, cells := 2, slots := 6, locals := 57 } : Room)) (fun a U => a = #[(.ref a5), (.ref ca), (.int (0 : Int32)), (.int (2 : Int32)), .null] ∧ Z.Warmed39 U.vm ∧ U.heap = h0) (fun _ _ _ _ _ => True) (fun _ U o U' => ∃ v L, o = .returned v ∧ Q_rm_init4_2_0 Z G1 a5 ca kc cc0 cc1 h0 n0 v U'.heap L ∧ FrameEnd U o U' L ({ frames := 4, cells := 2, slots := 6, locals := 57 } : Room).cells ({ frames := 4, cells := 2, slots := 6, locals := 57 } : Room).slots) := by
  refine MetFree.of_bodySF (plainFor_of_name pn_java_lang_String) hisR ?_
  intro p e s m args below meth c s₁ Bd hml0 hP hK
  obtain ⟨rfl, hZ, hh⟩ := hP
  have hx := Bd.exec
  have hby := Bd.bytes
  have hml : c.maxLocals = 6 := hml0
  have hown : s.vm.findClass "java/lang/String" = some m.cls := findClass_of_methodNamed Bd.named
  have hnm := (name_of_methodNamed Bd.named Bd.method).1
  have X0 : Stand p l e ({ frames := 4, cells := 2, slots := 6, locals := 57 } : Room) s m #[(.ref a5), (.ref ca), (.int (0 : Int32)), (.int (2 : Int32)), .null] below meth c s₁ [] 0 0 := Stand.of_body Bd
  have e0 : s₁.heap = h0 := by rw [← hh, Bd.state]; rfl
  have N0 := Fr.nil n0
  have K00 : Keep h0 h0 [a5] := Keep.refl _ _
  have hlk0 : meth.locks = false := by first | assumption | exact BodyLoose.notSynchronized (by assumption) | exact Body.notSynchronized (by assumption)
  show Rch p e below s₁ (entryFrame m #[(.ref a5), (.ref ca), (.int (0 : Int32)), (.int (2 : Int32)), .null] 6) (FinP s (Q_rm_init4_2_0 Z G1 a5 ca kc cc0 cc1 h0 n0) 2 6)
  refine Rch.cast (ef_rm_init4_2_0 m G1 a5 ca kc cc0 cc1) ?_
  show Rch p e below s₁ (mkF m 0 #[.val (.ref a5), .val (.ref ca), .val (.int (0 : Int32)), .val (.int (2 : Int32)), .val .null, .unset] []) _
  refine w_aloadN (pc' := 1) X0 hx hby djdk42m149_0 rfl rfl rfl ?_
  obtain ⟨T358, X358, e358, st358⟩ := initO X0 hx hZ hown (hw _ (List.mem_of_getElem? (i := 12) rfl)) (hw _ (List.mem_of_getElem? (i := 13) rfl)) (hw _ (List.mem_of_getElem? (i := 14) rfl)) e0 (g := (mkF m 1 #[.val (.ref a5), .val (.ref ca), .val (.int (0 : Int32)), .val (.int (2 : Int32)), .val .null, .unset] [(.ref a5)])) rfl (by rw [hml]; rfl) rfl (hb hby djdk42m149_1) (by decide) (W := 0) (by show 2 * 0 + _ ≤ _; exact Nat.le_of_eq rfl) (by decide)
  refine Rch.st (fun _ k => st358 _ k) ?_
  show Rch p e below T358 (mkF m 4 #[.val (.ref a5), .val (.ref ca), .val (.int (0 : Int32)), .val (.int (2 : Int32)), .val .null, .unset] []) _
  refine w_iloadN (pc' := 5) X358 hx hby djdk42m149_4 rfl rfl ?_
  refine w_ifYes (pc' := 27) X358 hx hby djdk42m149_5 (XT.i0_ne_t (by decide)) (by decide) ?_
  obtain ⟨T359, X359, e359, st359⟩ := getS X358 hx hZ hown (host := "") (hw _ (List.mem_of_getElem? (i := 48) rfl)) Via.refl e358 (O2.ext Old0.2) (g := (mkF m 27 #[.val (.ref a5), .val (.ref ca), .val (.int (0 : Int32)), .val (.int (2 : Int32)), .val .null, .unset] [])) rfl (hb hby djdk42m149_27)
  refine Rch.st (fun _ k => st359 _ k) ?_
  show Rch p e below T359 (mkF m 30 #[.val (.ref a5), .val (.ref ca), .val (.int (0 : Int32)), .val (.int (2 : Int32)), .val .null, .unset] [(.int G1)]) _
  refine w_ifNo (pc' := 33) X359 hx hby djdk42m149_30 (XT.i0_eq_f (P5)) rfl ?_
  refine w_aloadN (pc' := 34) X359 hx hby djdk42m149_33 rfl rfl rfl ?_
  refine w_iloadN (pc' := 35) X359 hx hby djdk42m149_34 rfl rfl ?_
  refine w_iloadN (pc' := 36) X359 hx hby djdk42m149_35 rfl rfl ?_
  obtain ⟨_, _, ⟨T360, L360, k360, n360⟩, -, X360, ⟨Lc360, hQ360, l360, y360, z360⟩, st360⟩ := Jvm.LawKit.callS X359 hx (y := (⟨"java/lang/StringUTF16", "compress", "([CII)[B"⟩ : MethodName)) hown (mvT hZ (hw _ (List.mem_of_getElem? (i := 50) rfl))) (mvT hZ (hw _ (List.mem_of_getElem? (i := 51) rfl))) (mvT hZ (hw _ (List.mem_of_getElem? (i := 52) rfl))) (mvT hZ (hw _ (List.mem_of_getElem? (i := 53) rfl))) (by decide) (backOf (W := 0) (rm_cmp3_2_0 l Z a0 hw [] ca kc cc0 cc1 h0 n0 Z0 (SA) (SH) (SL) f8 (hx0) (hn0) (hm0) Old0) hZ (hw _ (List.mem_of_getElem? (i := 53) rfl)) (hw _ (List.mem_of_getElem? (i := 52) rfl)) (by decide) (by decide)) (g := (mkF m 36 #[.val (.ref a5), .val (.ref ca), .val (.int (0 : Int32)), .val (.int (2 : Int32)), .val .null, .unset] [(.int (2 : Int32)), (.int (0 : Int32)), (.ref ca)])) rfl (by rw [hml]; rfl) (argsL := [(.ref ca), (.int (0 : Int32)), (.int (2 : Int32))]) (rest := []) (lenOf pd___CII__B rfl) rfl (by show 2 * 0 + _ ≤ _; exact Nat.le_of_eq rfl) (hb hby djdk42m149_36) (fun _ _ => ⟨rfl, e359, (by decide : 0 + 2 ≤ _), (by decide : 0 + 6 ≤ _)⟩)
  dsimp only [Pt.U, Pt.locs, Pt.cells, Pt.slots] at X360 l360 y360 z360 st360 hQ360
  subst l360 y360 z360
  obtain ⟨t_360, kt_360, rfl, NQ360, K360, pq360_0, fq360_0⟩ := hQ360
  have N361 := Fr.app N0 NQ360
  have ne362 : a5 ≠ t_360 := Nat.ne_of_lt (Nat.lt_of_lt_of_le f5.lt pq360_0)
  have ne363 : ca ≠ t_360 := Nat.ne_of_lt (Nat.lt_of_lt_of_le f8.lt pq360_0)
  have ge364 : n0 ≤ t_360 := Nat.le_trans Z0 pq360_0
  have f365 : Exa Z T360.heap a5 "java/lang/String" := f5.keep K360
  have f366 : Fld Z T360.heap a5 "java/lang/String" "coder" "B" (.int (0 : Int32)) := f6.keep K360 nin0
  have f367 : Fld Z T360.heap a5 "java/lang/String" "value" "[B" .null := f7.keep K360 nin0
  have f368 : Arv Z T360.heap ca kc .char (2 : Int32) [(.int cc0), (.int cc1)] (.int (0 : Int32)) := f8.keep K360 nin0
  have Old369 := Old0.keep K360 all0
  have Kp370 : Keep h0 T360.heap [a5] := K00.trans K360 all0
  have Z371 := Nat.le_trans Z0 K360.1
  refine Rch.st (fun _ k => st360 _ k) ?_
  show Rch p e below T360 (mkF m 39 #[.val (.ref a5), .val (.ref ca), .val (.int (0 : Int32)), .val (.int (2 : Int32)), .val .null, .unset] [(.ref t_360)]) _
  refine w_astore (pc' := 41) (l' := #[.val (.ref a5), .val (.ref ca), .val (.int (0 : Int32)), .val (.int (2 : Int32)), .val .null, .val (.ref t_360)]) X360 hx hby djdk42m149_39 rfl rfl rfl ?_
  refine w_aloadN (pc' := 42) X360 hx hby djdk42m149_41 rfl rfl rfl ?_
  refine w_aload (pc' := 44) X360 hx hby djdk42m149_42 rfl rfl rfl ?_
  refine w_iloadN (pc' := 45) X360 hx hby djdk42m149_44 rfl rfl ?_
  obtain ⟨_, _, ⟨T372, L372, k372, n372⟩, -, X372, ⟨Lc372, hQ372, l372, y372, z372⟩, st372⟩ := Jvm.LawKit.callS X360 hx (y := (⟨"java/lang/StringUTF16", "coderFromArrayLen", "([BI)B"⟩ : MethodName)) hown (mvT hZ (hw _ (List.mem_of_getElem? (i := 57) rfl))) (mvT hZ (hw _ (List.mem_of_getElem? (i := 58) rfl))) (mvT hZ (hw _ (List.mem_of_getElem? (i := 52) rfl))) (mvT hZ (hw _ (List.mem_of_getElem? (i := 59) rfl))) (by decide) (backOf (W := 1) (rm_cfl l Z a0 hw [] t_360 kt_360 (2 : Int32) (4 : Int32) ([(.int (own_lo cc0)), (.int (own_hi cc0)), (.int (own_lo cc1)), (.int (own_hi cc1))]) (.int (0 : Int32)) T360.heap n0 Z371 fq360_0) hZ (hw _ (List.mem_of_getElem? (i := 59) rfl)) (hw _ (List.mem_of_getElem? (i := 52) rfl)) (by decide) (by decide)) (g := (mkF m 45 #[.val (.ref a5), .val (.ref ca), .val (.int (0 : Int32)), .val (.int (2 : Int32)), .val .null, .val (.ref t_360)] [(.int (2 : Int32)), (.ref t_360), (.ref a5)])) rfl (by rw [hml]; rfl) (argsL := [(.ref t_360), (.int (2 : Int32))]) (rest := [(.ref a5)]) (lenOf pd___BI_B rfl) rfl (by show 2 * 0 + _ ≤ _; exact Nat.le_of_eq rfl) (hb hby djdk42m149_45) (fun _ _ => ⟨rfl, (rfl : T360.heap = T360.heap), (by decide : 2 + 0 ≤ _), (by decide : 6 + 0 ≤ _)⟩)
  dsimp only [Pt.U, Pt.locs, Pt.cells, Pt.slots] at X372 l372 y372 z372 st372 hQ372
  subst l372 y372 z372
  obtain ⟨rfl, NQ372, K372⟩ := hQ372
  have N373 := Fr.app N361 NQ372
  refine Rch.st (fun _ k => st372 _ k) ?_
  show Rch p e below T372 (mkF m 48 #[.val (.ref a5), .val (.ref ca), .val (.int (0 : Int32)), .val (.int (2 : Int32)), .val .null, .val (.ref t_360)] [(.int ((XT.ushr ((2 : Int32) - (4 : Int32)) (31 : Int32))).toInt8.toInt32), (.ref a5)]) _
  have r374 : ((XT.ushr ((2 : Int32) - (4 : Int32)) (31 : Int32))).toInt8.toInt32 = (1 : Int32) := by decide
  rw [r374]
  show Rch p e below T372 (mkF m 48 #[.val (.ref a5), .val (.ref ca), .val (.int (0 : Int32)), .val (.int (2 : Int32)), .val .null, .val (.ref t_360)] [(.int (1 : Int32)), (.ref a5)]) _
  obtain ⟨T375, h375, X375, e375, W375, st375⟩ := putF X372 hx hZ hown (host := "") (Or.inl (hw _ (List.mem_of_getElem? (i := 22) rfl))) Via.refl K372 f366 f365 (Or.inr ⟨(hw _ (List.mem_of_getElem? (i := 18) rfl)), rfl, hnm⟩) (hw _ (List.mem_of_getElem? (i := 3) rfl)) (ty := .byte) (by decide) rfl rfl (g := (mkF m 48 #[.val (.ref a5), .val (.ref ca), .val (.int (0 : Int32)), .val (.int (2 : Int32)), .val .null, .val (.ref t_360)] [(.int (1 : Int32)), (.ref a5)])) rfl rfl (hb hby djdk42m149_48)
  have N376 := Fr.snoc X375 N373 ga
  have f377 : Exa Z h375 a5 "java/lang/String" := f365.wr W375
  have f378 : Fld Z h375 a5 "java/lang/String" "coder" "B" (.int (1 : Int32)) := f366.same W375
  have f379 : Fld Z h375 a5 "java/lang/String" "value" "[B" .null := f367.other W375 (Or.inr (slot_ne (t := (.array .byte)) (t' := .byte) (Or.inr (hw _ (List.mem_of_getElem? (i := 17) rfl))) (Or.inr (hw _ (List.mem_of_getElem? (i := 18) rfl))) (by decide) (by decide) (by decide)))
  have f380 : Arv Z h375 ca kc .char (2 : Int32) [(.int cc0), (.int cc1)] (.int (0 : Int32)) := f368.other W375 (Ne.symm nca)
  have f381 : Arv Z h375 t_360 kt_360 .byte (4 : Int32) [(.int (own_lo cc0)), (.int (own_hi cc0)), (.int (own_lo cc1)), (.int (own_hi cc1))] (.int (0 : Int32)) := fq360_0.other W375 (Ne.symm ne362)
  have Old382 := Old369.wr W375 ga
  have Z383 := Nat.le_trans Z371 (Keep.of_wr W375).1
  have Kp384 : Keep h0 h375 [a5] := Kp370.wr W375 (Or.inl (List.mem_of_getElem? (i := 0) rfl))
  refine Rch.st (fun _ k => st375 _ k) ?_
  show Rch p e below T375 (mkF m 51 #[.val (.ref a5), .val (.ref ca), .val (.int (0 : Int32)), .val (.int (2 : Int32)), .val .null, .val (.ref t_360)] []) _
  refine w_aloadN (pc' := 52) X375 hx hby djdk42m149_51 rfl rfl rfl ?_
  refine w_aload (pc' := 54) X375 hx hby djdk42m149_52 rfl rfl rfl ?_
  obtain ⟨T385, h385, X385, e385, W385, st385⟩ := putF X375 hx hZ hown (host := "") (Or.inl (hw _ (List.mem_of_getElem? (i := 21) rfl))) Via.refl e375 f379 f377 (Or.inr ⟨(hw _ (List.mem_of_getElem? (i := 17) rfl)), rfl, hnm⟩) (hw _ (List.mem_of_getElem? (i := 3) rfl)) (ty := (.array .byte)) (by decide) rfl rfl (g := (mkF m 54 #[.val (.ref a5), .val (.ref ca), .val (.int (0 : Int32)), .val (.int (2 : Int32)), .val .null, .val (.ref t_360)] [(.ref t_360), (.ref a5)])) rfl rfl (hb hby djdk42m149_54)
  have N386 := Fr.snoc X385 N376 ga
  have f387 : Exa Z h385 a5 "java/lang/String" := f377.wr W385
  have f388 : Fld Z h385 a5 "java/lang/String" "coder" "B" (.int (1 : Int32)) := f378.other W385 (Or.inr (slot_ne (t := .byte) (t' := (.array .byte)) (Or.inr (hw _ (List.mem_of_getElem? (i := 18) rfl))) (Or.inr (hw _ (List.mem_of_getElem? (i := 17) rfl))) (by decide) (by decide) (by decide)))
  have f389 : Fld Z h385 a5 "java/lang/String" "value" "[B" (.ref t_360) := f379.same W385
  have f390 : Arv Z h385 ca kc .char (2 : Int32) [(.int cc0), (.int cc1)] (.int (0 : Int32)) := f380.other W385 (Ne.symm nca)
  have f391 : Arv Z h385 t_360 kt_360 .byte (4 : Int32) [(.int (own_lo cc0)), (.int (own_hi cc0)), (.int (own_lo cc1)), (.int (own_hi cc1))] (.int (0 : Int32)) := f381.other W385 (Ne.symm ne362)
  have Old392 := Old382.wr W385 ga
  have Z393 := Nat.le_trans Z383 (Keep.of_wr W385).1
  have Kp394 : Keep h0 h385 [a5] := Kp384.wr W385 (Or.inl (List.mem_of_getElem? (i := 0) rfl))
  refine Rch.st (fun _ k => st385 _ k) ?_
  show Rch p e below T385 (mkF m 57 #[.val (.ref a5), .val (.ref ca), .val (.int (0 : Int32)), .val (.int (2 : Int32)), .val .null, .val (.ref t_360)] []) _
  exact Rch.ret0 X385 hx Bd.returns (hb hby djdk42m149_57) (by rw [e385]; exact ⟨t_360, kt_360, rfl, N386, Kp394, (Nat.le_trans K00.1 pq360_0), f388, f389, f391⟩) (by decide) (by decide)

theorem ef_rm_init1_2_0 (m : MethodId) (G1 : Int32) (a5 : Addr) (ca : Addr) (kc : ClassId) (cc0 : Int32) (cc1 : Int32)  : entryFrame m #[(.ref a5), (.ref ca)] 2 = mkF m 0 #[.val (.ref a5), .val (.ref ca)] [] := by  first | (simp [entryFrame, mkF, argsToLocals, Value.category, maxLocals]; done) | rfl
def Q_rm_init1_2_0 (Z : State) (G1 : Int32) (a5 : Addr) (ca : Addr) (kc : ClassId) (cc0 : Int32) (cc1 : Int32) (h0 : Heap) (n0 : Nat) (v : Option Value) (h : Heap) (L : List Loc) : Prop := ∃ (t : Addr) (kt : ClassId), (v = none) ∧ (Fr n0 L) ∧ (Keep h0 h [a5]) ∧ (h0.size ≤ t) ∧ (Fld Z h a5 "java/lang/String" "coder" "B" (.int (1 : Int32))) ∧ (Fld Z h a5 "java/lang/String" "value" "[B" (.ref t)) ∧ (Arv Z h t kt .byte (4 : Int32) [(.int (own_lo cc0)), (.int (own_hi cc0)), (.int (own_lo cc1)), (.int (own_hi cc1))] (.int (0 : Int32)))
set_option maxRecDepth 65536 in
set_option maxHeartbeats 40000000 in
theorem rm_init1_2_0 (l : Launch) (Z : State) (a0 : Array Value) (hw : ∀ d ∈ tables_1, d.before a0 Z = true) (ws : List Jvm.Cond) (G1 : Int32) (a5 : Addr) (ca : Addr) (kc : ClassId) (cc0 : Int32) (cc1 : Int32) (h0 : Heap) (n0 : Nat) (Z0 : n0 ≤ h0.size) (O2 : Sta Z Z.heap "java/lang/String" "COMPACT_STRINGS" "Z" (.int G1)) (P5 : ¬ G1 = 0) (SA : Sta Z Z.heap "java/lang/StringUTF16" "$assertionsDisabled" "Z" (.int 1)) (SH : Sta Z Z.heap "java/lang/StringUTF16" "HI_BYTE_SHIFT" "I" (.int 0)) (SL : Sta Z Z.heap "java/lang/StringUTF16" "LO_BYTE_SHIFT" "I" (.int 8)) (f5 : Exa Z h0 a5 "java/lang/String") (f6 : Fld Z h0 a5 "java/lang/String" "coder" "B" (.int (0 : Int32))) (f7 : Fld Z h0 a5 "java/lang/String" "value" "[B" .null) (f8 : Arv Z h0 ca kc .char (2 : Int32) [(.int cc0), (.int cc1)] (.int (0 : Int32))) (ga : n0 ≤ a5) (nca : a5 ≠ ca) (hx0 : (255 : Int32) < cc0) (hn0 : ¬ cc0 < 0) (hm0 : ¬ (65535 : Int32) < cc0) (Old0 : OldL Z n0 h0) :
    MetFree l (⟨"java/lang/String", "<init>", "([C)V"⟩ : MethodName) (head1 (Jvm.Cond.code (⟨"java/lang/String", "<init>", "([C)V"⟩ : MethodName) jdk_42_method_3_code 2 none :: ws) ({ frames := 5, cells := 2, slots := 6, locals := 74 } : Room)) (fun a U => a = #[(.ref a5), (.ref ca)] ∧ Z.Warmed39 U.vm ∧ U.heap = h0) (fun _ _ _ _ _ => True) (fun _ U o U' => ∃ v L, o = .returned v ∧ Q_rm_init1_2_0 Z G1 a5 ca kc cc0 cc1 h0 n0 v U'.heap L ∧ FrameEnd U o U' L ({ frames := 5, cells := 2, slots := 6, locals := 74 } : Room).cells ({ frames := 5, cells := 2, slots := 6, locals := 74 } : Room).slots) := by
  refine MetFree.of_bodySF (plainFor_of_name pn_java_lang_String) hisR ?_
  intro p e s m args below meth c s₁ Bd hml0 hP hK
  obtain ⟨rfl, hZ, hh⟩ := hP
  have hx := Bd.exec
  have hby := Bd.bytes
  have hml : c.maxLocals = 2 := hml0
  have hown : s.vm.findClass "java/lang/String" = some m.cls := findClass_of_methodNamed Bd.named
  have hnm := (name_of_methodNamed Bd.named Bd.method).1
  have X0 : Stand p l e ({ frames := 5, cells := 2, slots := 6, locals := 74 } : Room) s m #[(.ref a5), (.ref ca)] below meth c s₁ [] 0 0 := Stand.of_body Bd
  have e0 : s₁.heap = h0 := by rw [← hh, Bd.state]; rfl
  have N0 := Fr.nil n0
  have K00 : Keep h0 h0 [a5] := Keep.refl _ _
  have hlk0 : meth.locks = false := by first | assumption | exact BodyLoose.notSynchronized (by assumption) | exact Body.notSynchronized (by assumption)
  show Rch p e below s₁ (entryFrame m #[(.ref a5), (.ref ca)] 2) (FinP s (Q_rm_init1_2_0 Z G1 a5 ca kc cc0 cc1 h0 n0) 2 6)
  refine Rch.cast (ef_rm_init1_2_0 m G1 a5 ca kc cc0 cc1) ?_
  show Rch p e below s₁ (mkF m 0 #[.val (.ref a5), .val (.ref ca)] []) _
  refine w_aloadN (pc' := 1) X0 hx hby djdk42m3_0 rfl rfl rfl ?_
  refine w_aloadN (pc' := 2) X0 hx hby djdk42m3_1 rfl rfl rfl ?_
  refine w_iconst (pc' := 3) (v := 0) X0 hx hby djdk42m3_2 rfl rfl ?_
  refine w_aloadN (pc' := 4) X0 hx hby djdk42m3_3 rfl rfl rfl ?_
  refine Rch.st (fun _ k => own_alen X0 hx hZ e0 f8 rfl rfl (hb hby djdk42m3_4) k) ?_
  show Rch p e below s₁ (mkF m 5 #[.val (.ref a5), .val (.ref ca)] [(.int (2 : Int32)), (.int (0 : Int32)), (.ref ca), (.ref a5)]) _
  refine w_aconstNull (pc' := 6) X0 hx hby djdk42m3_5 rfl ?_
  obtain ⟨_, _, ⟨T395, L395, k395, n395⟩, -, X395, ⟨Lc395, hQ395, l395, y395, z395⟩, st395⟩ := X0.specialBack hx (y := (⟨"java/lang/String", "<init>", "([CIILjava/lang/Void;)V"⟩ : MethodName)) rfl hown (mvT hZ (hw _ (List.mem_of_getElem? (i := 8) rfl))) (mvT hZ (hw _ (List.mem_of_getElem? (i := 9) rfl))) (mvT hZ (hw _ (List.mem_of_getElem? (i := 11) rfl))) (by decide) (backOf (W := 0) (rm_init4_2_0 l Z a0 hw [] G1 a5 ca kc cc0 cc1 h0 n0 Z0 (O2) (P5) (SA) (SH) (SL) f5 f6 f7 f8 (ga) (nca) (hx0) (hn0) (hm0) Old0) hZ (hw _ (List.mem_of_getElem? (i := 11) rfl)) (hw _ (List.mem_of_getElem? (i := 4) rfl)) (by decide) (by decide)) (g := (mkF m 6 #[.val (.ref a5), .val (.ref ca)] [.null, (.int (2 : Int32)), (.int (0 : Int32)), (.ref ca), (.ref a5)])) rfl (by rw [hml]; rfl) (Steps.refl _) (a := a5) (argsL := [(.ref ca), (.int (0 : Int32)), (.int (2 : Int32)), .null]) (rest := []) (lenOf pd___CIILjava_lang_Void__V rfl) rfl (by show 2 * 0 + _ ≤ _; exact Nat.le_of_eq rfl) (hb hby djdk42m3_6) (fun _ _ => ⟨rfl, e0, (by decide : 0 + 2 ≤ _), (by decide : 0 + 6 ≤ _)⟩)
  dsimp only [Pt.U, Pt.locs, Pt.cells, Pt.slots] at X395 l395 y395 z395 st395 hQ395
  subst l395 y395 z395
  obtain ⟨t_395, kt_395, rfl, NQ395, K395, pq395_0, fq395_0, fq395_1, fq395_2⟩ := hQ395
  have N396 := Fr.app N0 NQ395
  have ne397 : a5 ≠ t_395 := Nat.ne_of_lt (Nat.lt_of_lt_of_le f5.lt pq395_0)
  have ne398 : ca ≠ t_395 := Nat.ne_of_lt (Nat.lt_of_lt_of_le f8.lt pq395_0)
  have ge399 : n0 ≤ t_395 := Nat.le_trans Z0 pq395_0
  have f400 : Exa Z T395.heap a5 "java/lang/String" := f5.keep K395
  have f401 : Arv Z T395.heap ca kc .char (2 : Int32) [(.int cc0), (.int cc1)] (.int (0 : Int32)) := f8.keep K395 (ninS (Ne.symm nca) nin0)
  have Old402 := Old0.keep K395 (allS ga all0)
  have Kp403 : Keep h0 T395.heap [a5] := K00.trans K395 (allS (Or.inl (List.mem_of_getElem? (i := 0) rfl)) all0)
  have Z404 := Nat.le_trans Z0 K395.1
  refine Rch.st (fun _ k => st395.trans k) ?_
  show Rch p e below T395 (mkF m 9 #[.val (.ref a5), .val (.ref ca)] []) _
  exact Rch.ret0 X395 hx Bd.returns (hb hby djdk42m3_9) (by rw [(rfl : T395.heap = T395.heap)]; exact ⟨t_395, kt_395, rfl, N396, Kp403, (Nat.le_trans K00.1 pq395_0), fq395_0, fq395_1, fq395_2⟩) (by decide) (by decide)

theorem ef_rm_cmp5_2_1 (m : MethodId) (ca : Addr) (kc : ClassId) (bd : Addr) (kd : ClassId) (cc0 : Int32) (cc1 : Int32)  : entryFrame m #[(.ref ca), (.int (0 : Int32)), (.ref bd), (.int (0 : Int32)), (.int (2 : Int32))] 7 = mkF m 0 #[.val (.ref ca), .val (.int (0 : Int32)), .val (.ref bd), .val (.int (0 : Int32)), .val (.int (2 : Int32)), .unset, .unset] [] := by  first | (simp [entryFrame, mkF, argsToLocals, Value.category, maxLocals]; done) | rfl
def Q_rm_cmp5_2_1 (Z : State) (ca : Addr) (kc : ClassId) (bd : Addr) (kd : ClassId) (cc0 : Int32) (cc1 : Int32) (h0 : Heap) (n0 : Nat) (v : Option Value) (h : Heap) (L : List Loc) : Prop := (v = some (.int (1 : Int32))) ∧ (Fr n0 L) ∧ (Keep h0 h [bd])
set_option maxRecDepth 65536 in
set_option maxHeartbeats 40000000 in
theorem rm_cmp5_2_1 (l : Launch) (Z : State) (a0 : Array Value) (hw : ∀ d ∈ tables_1, d.before a0 Z = true) (ws : List Jvm.Cond) (ca : Addr) (kc : ClassId) (bd : Addr) (kd : ClassId) (cc0 : Int32) (cc1 : Int32) (h0 : Heap) (n0 : Nat) (Z0 : n0 ≤ h0.size) (f0 : Arv Z h0 ca kc .char (2 : Int32) [(.int cc0), (.int cc1)] (.int (0 : Int32))) (f1 : Arv Z h0 bd kd .byte (2 : Int32) [(.int (0 : Int32)), (.int (0 : Int32))] (.int (0 : Int32))) (gd : n0 ≤ bd) (ncd : ca ≠ bd) (hg0 : ¬ (255 : Int32) < cc0) (hx1 : (255 : Int32) < cc1) :
    MetFree l (⟨"java/lang/StringUTF16", "compress", "([CI[BII)I"⟩ : MethodName) (head1 (Jvm.Cond.code (⟨"java/lang/StringUTF16", "compress", "([CI[BII)I"⟩ : MethodName) jdk_52_method_21_code 7 (some .int) :: ws) ({ frames := 0, cells := 0, slots := 0, locals := 0 } : Room)) (fun a U => a = #[(.ref ca), (.int (0 : Int32)), (.ref bd), (.int (0 : Int32)), (.int (2 : Int32))] ∧ Z.Warmed39 U.vm ∧ U.heap = h0) (fun _ _ _ _ _ => True) (fun _ U o U' => ∃ v L, o = .returned v ∧ Q_rm_cmp5_2_1 Z ca kc bd kd cc0 cc1 h0 n0 v U'.heap L ∧ FrameEnd U o U' L ({ frames := 0, cells := 0, slots := 0, locals := 0 } : Room).cells ({ frames := 0, cells := 0, slots := 0, locals := 0 } : Room).slots) := by
  refine MetFree.of_bodySF (plainFor_of_name pn_java_lang_StringUTF16) hisR ?_
  intro p e s m args below meth c s₁ Bd hml0 hP hK
  obtain ⟨rfl, hZ, hh⟩ := hP
  have hx := Bd.exec
  have hby := Bd.bytes
  have hml : c.maxLocals = 7 := hml0
  have hown : s.vm.findClass "java/lang/StringUTF16" = some m.cls := findClass_of_methodNamed Bd.named
  have hnm := (name_of_methodNamed Bd.named Bd.method).1
  have X0 : Stand p l e ({ frames := 0, cells := 0, slots := 0, locals := 0 } : Room) s m #[(.ref ca), (.int (0 : Int32)), (.ref bd), (.int (0 : Int32)), (.int (2 : Int32))] below meth c s₁ [] 0 0 := Stand.of_body Bd
  have e0 : s₁.heap = h0 := by rw [← hh, Bd.state]; rfl
  have N0 := Fr.nil n0
  have K00 : Keep h0 h0 [bd] := Keep.refl _ _
  have hlk0 : meth.locks = false := by first | assumption | exact BodyLoose.notSynchronized (by assumption) | exact Body.notSynchronized (by assumption)
  show Rch p e below s₁ (entryFrame m #[(.ref ca), (.int (0 : Int32)), (.ref bd), (.int (0 : Int32)), (.int (2 : Int32))] 7) (FinP s (Q_rm_cmp5_2_1 Z ca kc bd kd cc0 cc1 h0 n0) 0 0)
  refine Rch.cast (ef_rm_cmp5_2_1 m ca kc bd kd cc0 cc1) ?_
  show Rch p e below s₁ (mkF m 0 #[.val (.ref ca), .val (.int (0 : Int32)), .val (.ref bd), .val (.int (0 : Int32)), .val (.int (2 : Int32)), .unset, .unset] []) _
  refine w_iconst (pc' := 1) (v := 0) X0 hx hby djdk52m21_0 rfl rfl ?_
  refine w_istore (pc' := 3) (l' := #[.val (.ref ca), .val (.int (0 : Int32)), .val (.ref bd), .val (.int (0 : Int32)), .val (.int (2 : Int32)), .val (.int (0 : Int32)), .unset]) X0 hx hby djdk52m21_1 rfl rfl ?_
  refine w_iload (pc' := 5) X0 hx hby djdk52m21_3 rfl rfl ?_
  refine w_iload (pc' := 7) X0 hx hby djdk52m21_5 rfl rfl ?_
  refine w_icmpNo (pc' := 10) X0 hx hby djdk52m21_7 (XT.ii_ge_f (by decide)) rfl ?_
  refine w_aloadN (pc' := 11) X0 hx hby djdk52m21_10 rfl rfl rfl ?_
  refine w_iloadN (pc' := 12) X0 hx hby djdk52m21_11 rfl rfl ?_
  refine Rch.st (fun _ k => own_ldC X0 hx hZ e0 f0 (j := (0 : Int32)) ⟨by decide, by decide⟩ (by rfl) rfl rfl (hb hby djdk52m21_12) k) ?_
  show Rch p e below s₁ (mkF m 13 #[.val (.ref ca), .val (.int (0 : Int32)), .val (.ref bd), .val (.int (0 : Int32)), .val (.int (2 : Int32)), .val (.int (0 : Int32)), .unset] [(.int cc0)]) _
  refine w_istore (pc' := 15) (l' := #[.val (.ref ca), .val (.int (0 : Int32)), .val (.ref bd), .val (.int (0 : Int32)), .val (.int (2 : Int32)), .val (.int (0 : Int32)), .val (.int cc0)]) X0 hx hby djdk52m21_13 rfl rfl ?_
  refine w_iload (pc' := 17) X0 hx hby djdk52m21_15 rfl rfl ?_
  refine w_sipush (pc' := 20) (v := 255) X0 hx hby djdk52m21_17 rfl rfl ?_
  refine w_icmpYes (pc' := 26) X0 hx hby djdk52m21_20 (XT.ii_le_t (hg0)) (by decide) ?_
  refine w_aloadN (pc' := 27) X0 hx hby djdk52m21_26 rfl rfl rfl ?_
  refine w_iloadN (pc' := 28) X0 hx hby djdk52m21_27 rfl rfl ?_
  refine w_iload (pc' := 30) X0 hx hby djdk52m21_28 rfl rfl ?_
  refine w_i2b (pc' := 31) X0 hx hby djdk52m21_30 rfl ?_
  obtain ⟨T405, h405, X405, e405, W405, V405, st405⟩ := own_stB X0 hx hZ e0 f1 (j := (0 : Int32)) ⟨by decide, by decide⟩ 0 (by decide) (by decide : 0 < 2) (g := (mkF m 31 #[.val (.ref ca), .val (.int (0 : Int32)), .val (.ref bd), .val (.int (0 : Int32)), .val (.int (2 : Int32)), .val (.int (0 : Int32)), .val (.int cc0)] [(.int (cc0).toInt8.toInt32), (.int (0 : Int32)), (.ref bd)])) rfl rfl (hb hby djdk52m21_31)
  have N406 := Fr.snoc X405 N0 gd
  have f407 : Arv Z h405 ca kc .char (2 : Int32) [(.int cc0), (.int cc1)] (.int (0 : Int32)) := f0.other W405 ncd
  have Z408 := Nat.le_trans Z0 (Keep.of_wr W405).1
  have Kp409 : Keep h0 h405 [bd] := K00.wr W405 (Or.inl (List.mem_of_getElem? (i := 0) rfl))
  have f410 : Arv Z h405 bd kd .byte (2 : Int32) [(.int ((cc0).toInt8.toInt32).toInt8.toInt32), (.int (0 : Int32))] (.int (0 : Int32)) := V405
  refine Rch.st (fun _ k => st405 _ k) ?_
  show Rch p e below T405 (mkF m 32 #[.val (.ref ca), .val (.int (0 : Int32)), .val (.ref bd), .val (.int (0 : Int32)), .val (.int (2 : Int32)), .val (.int (0 : Int32)), .val (.int cc0)] []) _
  refine w_iinc (pc' := 35) (w := (1 : Int32)) (l' := #[.val (.ref ca), .val (.int (1 : Int32)), .val (.ref bd), .val (.int (0 : Int32)), .val (.int (2 : Int32)), .val (.int (0 : Int32)), .val (.int cc0)]) X405 hx hby djdk52m21_32 rfl (by decide) rfl rfl ?_
  refine w_iinc (pc' := 38) (w := (1 : Int32)) (l' := #[.val (.ref ca), .val (.int (1 : Int32)), .val (.ref bd), .val (.int (1 : Int32)), .val (.int (2 : Int32)), .val (.int (0 : Int32)), .val (.int cc0)]) X405 hx hby djdk52m21_35 rfl (by decide) rfl rfl ?_
  refine w_iinc (pc' := 41) (w := (1 : Int32)) (l' := #[.val (.ref ca), .val (.int (1 : Int32)), .val (.ref bd), .val (.int (1 : Int32)), .val (.int (2 : Int32)), .val (.int (1 : Int32)), .val (.int cc0)]) X405 hx hby djdk52m21_38 rfl (by decide) rfl rfl ?_
  refine w_goto (pc' := 3) X405 hx hby djdk52m21_41 (by decide) ?_
  refine w_iload (pc' := 5) X405 hx hby djdk52m21_3 rfl rfl ?_
  refine w_iload (pc' := 7) X405 hx hby djdk52m21_5 rfl rfl ?_
  refine w_icmpNo (pc' := 10) X405 hx hby djdk52m21_7 (XT.ii_ge_f (by decide)) rfl ?_
  refine w_aloadN (pc' := 11) X405 hx hby djdk52m21_10 rfl rfl rfl ?_
  refine w_iloadN (pc' := 12) X405 hx hby djdk52m21_11 rfl rfl ?_
  refine Rch.st (fun _ k => own_ldC X405 hx hZ e405 f407 (j := (1 : Int32)) ⟨by decide, by decide⟩ (by rfl) rfl rfl (hb hby djdk52m21_12) k) ?_
  show Rch p e below T405 (mkF m 13 #[.val (.ref ca), .val (.int (1 : Int32)), .val (.ref bd), .val (.int (1 : Int32)), .val (.int (2 : Int32)), .val (.int (1 : Int32)), .val (.int cc0)] [(.int cc1)]) _
  refine w_istore (pc' := 15) (l' := #[.val (.ref ca), .val (.int (1 : Int32)), .val (.ref bd), .val (.int (1 : Int32)), .val (.int (2 : Int32)), .val (.int (1 : Int32)), .val (.int cc1)]) X405 hx hby djdk52m21_13 rfl rfl ?_
  refine w_iload (pc' := 17) X405 hx hby djdk52m21_15 rfl rfl ?_
  refine w_sipush (pc' := 20) (v := 255) X405 hx hby djdk52m21_17 rfl rfl ?_
  refine w_icmpNo (pc' := 23) X405 hx hby djdk52m21_20 (XT.ii_le_f (hx1)) rfl ?_
  refine w_iload (pc' := 25) X405 hx hby djdk52m21_23 rfl rfl ?_
  exact Rch.retV X405 hx Bd.returns rfl (Or.inl ⟨rfl, by simp, _, rfl⟩) (hb hby djdk52m21_25) (by rw [e405]; exact ⟨rfl, N406, Kp409⟩) (by decide) (by decide)

theorem ef_rm_cmp3_2_1 (m : MethodId) (ca : Addr) (kc : ClassId) (cc0 : Int32) (cc1 : Int32)  : entryFrame m #[(.ref ca), (.int (0 : Int32)), (.int (2 : Int32))] 6 = mkF m 0 #[.val (.ref ca), .val (.int (0 : Int32)), .val (.int (2 : Int32)), .unset, .unset, .unset] [] := by  first | (simp [entryFrame, mkF, argsToLocals, Value.category, maxLocals]; done) | rfl
def Q_rm_cmp3_2_1 (Z : State) (ca : Addr) (kc : ClassId) (cc0 : Int32) (cc1 : Int32) (h0 : Heap) (n0 : Nat) (v : Option Value) (h : Heap) (L : List Loc) : Prop := ∃ (t : Addr) (kt : ClassId), (v = some (.ref t)) ∧ (Fr n0 L) ∧ (Keep h0 h []) ∧ (h0.size ≤ t) ∧ (Arv Z h t kt .byte (4 : Int32) [(.int (own_lo cc0)), (.int (own_hi cc0)), (.int (own_lo cc1)), (.int (own_hi cc1))] (.int (0 : Int32)))
set_option maxRecDepth 65536 in
set_option maxHeartbeats 40000000 in
theorem rm_cmp3_2_1 (l : Launch) (Z : State) (a0 : Array Value) (hw : ∀ d ∈ tables_1, d.before a0 Z = true) (ws : List Jvm.Cond) (ca : Addr) (kc : ClassId) (cc0 : Int32) (cc1 : Int32) (h0 : Heap) (n0 : Nat) (Z0 : n0 ≤ h0.size) (SA : Sta Z Z.heap "java/lang/StringUTF16" "$assertionsDisabled" "Z" (.int 1)) (SH : Sta Z Z.heap "java/lang/StringUTF16" "HI_BYTE_SHIFT" "I" (.int 0)) (SL : Sta Z Z.heap "java/lang/StringUTF16" "LO_BYTE_SHIFT" "I" (.int 8)) (f3 : Arv Z h0 ca kc .char (2 : Int32) [(.int cc0), (.int cc1)] (.int (0 : Int32))) (hg0 : ¬ (255 : Int32) < cc0) (hx1 : (255 : Int32) < cc1) (hn1 : ¬ cc1 < 0) (hm1 : ¬ (65535 : Int32) < cc1) (Old0 : OldL Z n0 h0) :
    MetFree l (⟨"java/lang/StringUTF16", "compress", "([CII)[B"⟩ : MethodName) (head1 (Jvm.Cond.code (⟨"java/lang/StringUTF16", "compress", "([CII)[B"⟩ : MethodName) jdk_52_method_16_code 6 (some (.array .byte)) :: ws) ({ frames := 3, cells := 2, slots := 6, locals := 40 } : Room)) (fun a U => a = #[(.ref ca), (.int (0 : Int32)), (.int (2 : Int32))] ∧ Z.Warmed39 U.vm ∧ U.heap = h0) (fun _ _ _ _ _ => True) (fun _ U o U' => ∃ v L, o = .returned v ∧ Q_rm_cmp3_2_1 Z ca kc cc0 cc1 h0 n0 v U'.heap L ∧ FrameEnd U o U' L ({ frames := 3, cells := 2, slots := 6, locals := 40 } : Room).cells ({ frames := 3, cells := 2, slots := 6, locals := 40 } : Room).slots) := by
  refine MetFree.of_bodySF (plainFor_of_name pn_java_lang_StringUTF16) hisR ?_
  intro p e s m args below meth c s₁ Bd hml0 hP hK
  obtain ⟨rfl, hZ, hh⟩ := hP
  have hx := Bd.exec
  have hby := Bd.bytes
  have hml : c.maxLocals = 6 := hml0
  have hown : s.vm.findClass "java/lang/StringUTF16" = some m.cls := findClass_of_methodNamed Bd.named
  have hnm := (name_of_methodNamed Bd.named Bd.method).1
  have X0 : Stand p l e ({ frames := 3, cells := 2, slots := 6, locals := 40 } : Room) s m #[(.ref ca), (.int (0 : Int32)), (.int (2 : Int32))] below meth c s₁ [] 0 0 := Stand.of_body Bd
  have e0 : s₁.heap = h0 := by rw [← hh, Bd.state]; rfl
  have N0 := Fr.nil n0
  have K00 : Keep h0 h0 [] := Keep.refl _ _
  have hlk0 : meth.locks = false := by first | assumption | exact BodyLoose.notSynchronized (by assumption) | exact Body.notSynchronized (by assumption)
  show Rch p e below s₁ (entryFrame m #[(.ref ca), (.int (0 : Int32)), (.int (2 : Int32))] 6) (FinP s (Q_rm_cmp3_2_1 Z ca kc cc0 cc1 h0 n0) 2 6)
  refine Rch.cast (ef_rm_cmp3_2_1 m ca kc cc0 cc1) ?_
  show Rch p e below s₁ (mkF m 0 #[.val (.ref ca), .val (.int (0 : Int32)), .val (.int (2 : Int32)), .unset, .unset, .unset] []) _
  refine w_iloadN (pc' := 1) X0 hx hby djdk52m16_0 rfl rfl ?_
  obtain ⟨T411, h411, kc411, X411, e411, E411, A411, st411⟩ := newP X0 hx hZ (hw _ (List.mem_of_getElem? (i := 16) rfl)) e0 (g := (mkF m 1 #[.val (.ref ca), .val (.int (0 : Int32)), .val (.int (2 : Int32)), .unset, .unset, .unset] [(.int (2 : Int32))])) rfl (hb hby djdk52m16_1) rfl (by decide : ¬ ((2 : Int32) < (0 : Int32))) (cap := 2) (by decide : (2 : Int32).toNatClampNeg ≤ 2) (by decide) (by decide) (by decide)
  obtain ⟨a411, g411⟩ : ∃ z, z = h0.size := ⟨_, rfl⟩
  rw [← g411] at A411 st411
  have ne412 : ca ≠ a411 := by rw [g411]; exact Nat.ne_of_lt f3.lt
  have ge413 : n0 ≤ a411 := Nat.le_trans Z0 (Nat.le_of_eq g411.symm)
  have f415 : Arv Z h411 ca kc .char (2 : Int32) [(.int cc0), (.int cc1)] (.int (0 : Int32)) := f3.ext E411
  have Old416 := Old0.ext E411
  have Z417 := Nat.le_trans Z0 E411.1
  have Kp418 : Keep h0 h411 [] := K00.ext E411
  have f419 : Arv Z h411 a411 kc411 .byte (2 : Int32) [(.int (0 : Int32)), (.int (0 : Int32))] (.int (0 : Int32)) := (Arv.new A411 (by decide : ¬ ((2 : Int32) < (0 : Int32)))).pad (pad_rep [] (.int (0 : Int32)) 2)
  refine Rch.st (fun _ k => st411 _ k) ?_
  show Rch p e below T411 (mkF m 3 #[.val (.ref ca), .val (.int (0 : Int32)), .val (.int (2 : Int32)), .unset, .unset, .unset] [(.ref a411)]) _
  refine w_astoreN (pc' := 4) (l' := #[.val (.ref ca), .val (.int (0 : Int32)), .val (.int (2 : Int32)), .val (.ref a411), .unset, .unset]) X411 hx hby djdk52m16_3 rfl rfl rfl ?_
  refine w_aloadN (pc' := 5) X411 hx hby djdk52m16_4 rfl rfl rfl ?_
  refine w_iloadN (pc' := 6) X411 hx hby djdk52m16_5 rfl rfl ?_
  refine w_aloadN (pc' := 7) X411 hx hby djdk52m16_6 rfl rfl rfl ?_
  refine w_iconst (pc' := 8) (v := 0) X411 hx hby djdk52m16_7 rfl rfl ?_
  refine w_iloadN (pc' := 9) X411 hx hby djdk52m16_8 rfl rfl ?_
  obtain ⟨_, _, ⟨T420, L420, k420, n420⟩, -, X420, ⟨Lc420, hQ420, l420, y420, z420⟩, st420⟩ := Jvm.LawKit.callS X411 hx (y := (⟨"java/lang/StringUTF16", "compress", "([CI[BII)I"⟩ : MethodName)) hown (mvT hZ (hw _ (List.mem_of_getElem? (i := 54) rfl))) (mvT hZ (hw _ (List.mem_of_getElem? (i := 55) rfl))) (mvT hZ (hw _ (List.mem_of_getElem? (i := 52) rfl))) (mvT hZ (hw _ (List.mem_of_getElem? (i := 56) rfl))) (by decide) (backOf (W := 0) (rm_cmp5_2_1 l Z a0 hw [] ca kc a411 kc411 cc0 cc1 h411 n0 Z417 f415 f419 (ge413) (ne412) (hg0) (hx1)) hZ (hw _ (List.mem_of_getElem? (i := 56) rfl)) (hw _ (List.mem_of_getElem? (i := 52) rfl)) (by decide) (by decide)) (g := (mkF m 9 #[.val (.ref ca), .val (.int (0 : Int32)), .val (.int (2 : Int32)), .val (.ref a411), .unset, .unset] [(.int (2 : Int32)), (.int (0 : Int32)), (.ref a411), (.int (0 : Int32)), (.ref ca)])) rfl (by rw [hml]; rfl) (argsL := [(.ref ca), (.int (0 : Int32)), (.ref a411), (.int (0 : Int32)), (.int (2 : Int32))]) (rest := []) (lenOf pd___CI_BII_I rfl) rfl (by show 2 * 0 + _ ≤ _; exact Nat.le_of_eq rfl) (hb hby djdk52m16_9) (fun _ _ => ⟨rfl, e411, (by decide : 1 + 0 ≤ _), (by decide : 2 + 0 ≤ _)⟩)
  dsimp only [Pt.U, Pt.locs, Pt.cells, Pt.slots] at X420 l420 y420 z420 st420 hQ420
  subst l420 y420 z420
  obtain ⟨rfl, NQ420, K420⟩ := hQ420
  have N421 := Fr.app N0 NQ420
  have f422 : Arv Z T420.heap ca kc .char (2 : Int32) [(.int cc0), (.int cc1)] (.int (0 : Int32)) := f415.keep K420 (ninS ne412 nin0)
  have Old423 := Old416.keep K420 (allS ge413 all0)
  have Kp424 : Keep h0 T420.heap [] := Kp418.trans K420 (allS (Or.inr (Nat.le_trans K00.1 (Nat.le_of_eq g411.symm))) all0)
  have Z425 := Nat.le_trans Z417 K420.1
  refine Rch.st (fun _ k => st420 _ k) ?_
  show Rch p e below T420 (mkF m 12 #[.val (.ref ca), .val (.int (0 : Int32)), .val (.int (2 : Int32)), .val (.ref a411), .unset, .unset] [(.int (1 : Int32))]) _
  refine w_istore (pc' := 14) (l' := #[.val (.ref ca), .val (.int (0 : Int32)), .val (.int (2 : Int32)), .val (.ref a411), .val (.int (1 : Int32)), .unset]) X420 hx hby djdk52m16_12 rfl rfl ?_
  refine w_iload (pc' := 16) X420 hx hby djdk52m16_14 rfl rfl ?_
  refine w_iloadN (pc' := 17) X420 hx hby djdk52m16_16 rfl rfl ?_
  refine w_icmpNo (pc' := 20) X420 hx hby djdk52m16_17 (XT.ii_eq_f (by decide)) rfl ?_
  refine w_aloadN (pc' := 21) X420 hx hby djdk52m16_20 rfl rfl rfl ?_
  refine w_iloadN (pc' := 22) X420 hx hby djdk52m16_21 rfl rfl ?_
  refine w_iloadN (pc' := 23) X420 hx hby djdk52m16_22 rfl rfl ?_
  obtain ⟨_, _, ⟨T426, L426, k426, n426⟩, -, X426, ⟨Lc426, hQ426, l426, y426, z426⟩, st426⟩ := Jvm.LawKit.callS X420 hx (y := (⟨"java/lang/StringUTF16", "toBytes", "([CII)[B"⟩ : MethodName)) hown (mvT hZ (hw _ (List.mem_of_getElem? (i := 64) rfl))) (mvT hZ (hw _ (List.mem_of_getElem? (i := 65) rfl))) (mvT hZ (hw _ (List.mem_of_getElem? (i := 52) rfl))) (mvT hZ (hw _ (List.mem_of_getElem? (i := 66) rfl))) (by decide) (backOf (W := 0) (rm_tob_2 l Z a0 hw [] ca kc cc0 cc1 T420.heap n0 Z425 (SA) (SH) (SL) f422 Old423) hZ (hw _ (List.mem_of_getElem? (i := 66) rfl)) (hw _ (List.mem_of_getElem? (i := 52) rfl)) (by decide) (by decide)) (g := (mkF m 23 #[.val (.ref ca), .val (.int (0 : Int32)), .val (.int (2 : Int32)), .val (.ref a411), .val (.int (1 : Int32)), .unset] [(.int (2 : Int32)), (.int (0 : Int32)), (.ref ca)])) rfl (by rw [hml]; rfl) (argsL := [(.ref ca), (.int (0 : Int32)), (.int (2 : Int32))]) (rest := []) (lenOf pd___CII__B rfl) rfl (by show 2 * 0 + _ ≤ _; exact Nat.le_of_eq rfl) (hb hby djdk52m16_23) (fun _ _ => ⟨rfl, (rfl : T420.heap = T420.heap), (by decide : 1 + 1 ≤ _), (by decide : 2 + 4 ≤ _)⟩)
  dsimp only [Pt.U, Pt.locs, Pt.cells, Pt.slots] at X426 l426 y426 z426 st426 hQ426
  subst l426 y426 z426
  obtain ⟨t_426, kt_426, rfl, NQ426, K426, pq426_0, fq426_0⟩ := hQ426
  have N427 := Fr.app N421 NQ426
  have ne428 : ca ≠ t_426 := Nat.ne_of_lt (Nat.lt_of_lt_of_le f422.lt pq426_0)
  have ge429 : n0 ≤ t_426 := Nat.le_trans Z425 pq426_0
  have f430 : Arv Z T426.heap ca kc .char (2 : Int32) [(.int cc0), (.int cc1)] (.int (0 : Int32)) := f422.keep K426 nin0
  have Old431 := Old423.keep K426 all0
  have Kp432 : Keep h0 T426.heap [] := Kp424.trans K426 all0
  have Z433 := Nat.le_trans Z425 K426.1
  refine Rch.st (fun _ k => st426 _ k) ?_
  show Rch p e below T426 (mkF m 26 #[.val (.ref ca), .val (.int (0 : Int32)), .val (.int (2 : Int32)), .val (.ref a411), .val (.int (1 : Int32)), .unset] [(.ref t_426)]) _
  refine w_astore (pc' := 28) (l' := #[.val (.ref ca), .val (.int (0 : Int32)), .val (.int (2 : Int32)), .val (.ref a411), .val (.int (1 : Int32)), .val (.ref t_426)]) X426 hx hby djdk52m16_26 rfl rfl rfl ?_
  refine w_aload (pc' := 30) X426 hx hby djdk52m16_28 rfl rfl rfl ?_
  refine w_iload (pc' := 32) X426 hx hby djdk52m16_30 rfl rfl ?_
  obtain ⟨_, _, ⟨T434, L434, k434, n434⟩, -, X434, ⟨Lc434, hQ434, l434, y434, z434⟩, st434⟩ := Jvm.LawKit.callS X426 hx (y := (⟨"java/lang/StringUTF16", "getChar", "([BI)C"⟩ : MethodName)) hown (mvT hZ (hw _ (List.mem_of_getElem? (i := 80) rfl))) (mvT hZ (hw _ (List.mem_of_getElem? (i := 81) rfl))) (mvT hZ (hw _ (List.mem_of_getElem? (i := 52) rfl))) (mvT hZ (hw _ (List.mem_of_getElem? (i := 82) rfl))) (by decide) (backOf (W := 0) (rm_get_1 l Z a0 hw [] t_426 kt_426 (4 : Int32) ([(.int (own_lo cc0)), (.int (own_hi cc0)), (.int (own_lo cc1)), (.int (own_hi cc1))]) (.int (0 : Int32)) (own_lo cc1) (own_hi cc1) T426.heap n0 Z433 (SA) (SH) (SL) fq426_0 (by decide) (by decide) (rfl) (rfl) Old431) hZ (hw _ (List.mem_of_getElem? (i := 82) rfl)) (hw _ (List.mem_of_getElem? (i := 52) rfl)) (by decide) (by decide)) (g := (mkF m 32 #[.val (.ref ca), .val (.int (0 : Int32)), .val (.int (2 : Int32)), .val (.ref a411), .val (.int (1 : Int32)), .val (.ref t_426)] [(.int (1 : Int32)), (.ref t_426)])) rfl (by rw [hml]; rfl) (argsL := [(.ref t_426), (.int (1 : Int32))]) (rest := []) (lenOf pd___BI_C rfl) rfl (by show 2 * 0 + _ ≤ _; exact Nat.le_of_eq rfl) (hb hby djdk52m16_32) (fun _ _ => ⟨rfl, (rfl : T426.heap = T426.heap), (by decide : 2 + 0 ≤ _), (by decide : 6 + 0 ≤ _)⟩)
  dsimp only [Pt.U, Pt.locs, Pt.cells, Pt.slots] at X434 l434 y434 z434 st434 hQ434
  subst l434 y434 z434
  obtain ⟨rfl, NQ434, K434⟩ := hQ434
  have N435 := Fr.app N427 NQ434
  refine Rch.st (fun _ k => st434 _ k) ?_
  show Rch p e below T434 (mkF m 35 #[.val (.ref ca), .val (.int (0 : Int32)), .val (.int (2 : Int32)), .val (.ref a411), .val (.int (1 : Int32)), .val (.ref t_426)] [(.int (own_gc (own_lo cc1) (own_hi cc1)))]) _
  have r436 : (own_gc (own_lo cc1) (own_hi cc1)) = cc1 := own_getput hn1 hm1
  rw [r436]
  show Rch p e below T434 (mkF m 35 #[.val (.ref ca), .val (.int (0 : Int32)), .val (.int (2 : Int32)), .val (.ref a411), .val (.int (1 : Int32)), .val (.ref t_426)] [(.int cc1)]) _
  refine w_sipush (pc' := 38) (v := 255) X434 hx hby djdk52m16_35 rfl rfl ?_
  refine w_icmpYes (pc' := 54) X434 hx hby djdk52m16_38 (XT.ii_gt_t (hx1)) (by decide) ?_
  refine w_aload (pc' := 56) X434 hx hby djdk52m16_54 rfl rfl rfl ?_
  exact Rch.retV X434 hx Bd.returns rfl (Or.inr (Or.inr (Or.inr (Or.inr ⟨rfl, rfl, rfl⟩)))) (hb hby djdk52m16_56) (by rw [K434]; exact ⟨t_426, kt_426, rfl, N435, Kp432, (Nat.le_trans Kp424.1 pq426_0), fq426_0⟩) (by decide) (by decide)

theorem ef_rm_init4_2_1 (m : MethodId) (G1 : Int32) (a5 : Addr) (ca : Addr) (kc : ClassId) (cc0 : Int32) (cc1 : Int32)  : entryFrame m #[(.ref a5), (.ref ca), (.int (0 : Int32)), (.int (2 : Int32)), .null] 6 = mkF m 0 #[.val (.ref a5), .val (.ref ca), .val (.int (0 : Int32)), .val (.int (2 : Int32)), .val .null, .unset] [] := by  first | (simp [entryFrame, mkF, argsToLocals, Value.category, maxLocals]; done) | rfl
def Q_rm_init4_2_1 (Z : State) (G1 : Int32) (a5 : Addr) (ca : Addr) (kc : ClassId) (cc0 : Int32) (cc1 : Int32) (h0 : Heap) (n0 : Nat) (v : Option Value) (h : Heap) (L : List Loc) : Prop := ∃ (t : Addr) (kt : ClassId), (v = none) ∧ (Fr n0 L) ∧ (Keep h0 h [a5]) ∧ (h0.size ≤ t) ∧ (Fld Z h a5 "java/lang/String" "coder" "B" (.int (1 : Int32))) ∧ (Fld Z h a5 "java/lang/String" "value" "[B" (.ref t)) ∧ (Arv Z h t kt .byte (4 : Int32) [(.int (own_lo cc0)), (.int (own_hi cc0)), (.int (own_lo cc1)), (.int (own_hi cc1))] (.int (0 : Int32)))
set_option maxRecDepth 65536 in
set_option maxHeartbeats 40000000 in
theorem rm_init4_2_1 (l : Launch) (Z : State) (a0 : Array Value) (hw : ∀ d ∈ tables_1, d.before a0 Z = true) (ws : List Jvm.Cond) (G1 : Int32) (a5 : Addr) (ca : Addr) (kc : ClassId) (cc0 : Int32) (cc1 : Int32) (h0 : Heap) (n0 : Nat) (Z0 : n0 ≤ h0.size) (O2 : Sta Z Z.heap "java/lang/String" "COMPACT_STRINGS" "Z" (.int G1)) (P5 : ¬ G1 = 0) (SA : Sta Z Z.heap "java/lang/StringUTF16" "$assertionsDisabled" "Z" (.int 1)) (SH : Sta Z Z.heap "java/lang/StringUTF16" "HI_BYTE_SHIFT" "I" (.int 0)) (SL : Sta Z Z.heap "java/lang/StringUTF16" "LO_BYTE_SHIFT" "I" (.int 8)) (f5 : Exa Z h0 a5 "java/lang/String") (f6 : Fld Z h0 a5 "java/lang/String" "coder" "B" (.int (0 : Int32))) (f7 : Fld Z h0 a5 "java/lang/String" "value" "[B" .null) (f8 : Arv Z h0 ca kc .char (2 : Int32) [(.int cc0), (.int cc1)] (.int (0 : Int32))) (ga : n0 ≤ a5) (nca : a5 ≠ ca) (hg0 : ¬ (255 : Int32) < cc0) (hx1 : (255 : Int32) < cc1) (hn1 : ¬ cc1 < 0) (hm1 : ¬ (65535 : Int32) < cc1) (Old0 : OldL Z n0 h0) :
    MetFree l (⟨"java/lang/String", "<init>", "([CIILjava/lang/Void;)V"⟩ : MethodName) (head1 (Jvm.Cond.code (⟨"java/lang/String", "<init>", "([CIILjava/lang/Void;)V"⟩ : MethodName) jdk_42_method_149_code 6 none :: ws) ({ frames := 4, cells := 2, slots := 6, locals := 57 } : Room)) (fun a U => a = #[(.ref a5), (.ref ca), (.int (0 : Int32)), (.int (2 : Int32)), .null] ∧ Z.Warmed39 U.vm ∧ U.heap = h0) (fun _ _ _ _ _ => True) (fun _ U o U' => ∃ v L, o = .returned v ∧ Q_rm_init4_2_1 Z G1 a5 ca kc cc0 cc1 h0 n0 v U'.heap L ∧ FrameEnd U o U' L ({ frames := 4, cells := 2, slots := 6, locals := 57 } : Room).cells ({ frames := 4, cells := 2, slots := 6, locals := 57 } : Room).slots) := by
  refine MetFree.of_bodySF (plainFor_of_name pn_java_lang_String) hisR ?_
  intro p e s m args below meth c s₁ Bd hml0 hP hK
  obtain ⟨rfl, hZ, hh⟩ := hP
  have hx := Bd.exec
  have hby := Bd.bytes
  have hml : c.maxLocals = 6 := hml0
  have hown : s.vm.findClass "java/lang/String" = some m.cls := findClass_of_methodNamed Bd.named
  have hnm := (name_of_methodNamed Bd.named Bd.method).1
  have X0 : Stand p l e ({ frames := 4, cells := 2, slots := 6, locals := 57 } : Room) s m #[(.ref a5), (.ref ca), (.int (0 : Int32)), (.int (2 : Int32)), .null] below meth c s₁ [] 0 0 := Stand.of_body Bd
  have e0 : s₁.heap = h0 := by rw [← hh, Bd.state]; rfl
  have N0 := Fr.nil n0
  have K00 : Keep h0 h0 [a5] := Keep.refl _ _
  have hlk0 : meth.locks = false := by first | assumption | exact BodyLoose.notSynchronized (by assumption) | exact Body.notSynchronized (by assumption)
  show Rch p e below s₁ (entryFrame m #[(.ref a5), (.ref ca), (.int (0 : Int32)), (.int (2 : Int32)), .null] 6) (FinP s (Q_rm_init4_2_1 Z G1 a5 ca kc cc0 cc1 h0 n0) 2 6)
  refine Rch.cast (ef_rm_init4_2_1 m G1 a5 ca kc cc0 cc1) ?_
  show Rch p e below s₁ (mkF m 0 #[.val (.ref a5), .val (.ref ca), .val (.int (0 : Int32)), .val (.int (2 : Int32)), .val .null, .unset] []) _
  refine w_aloadN (pc' := 1) X0 hx hby djdk42m149_0 rfl rfl rfl ?_
  obtain ⟨T437, X437, e437, st437⟩ := initO X0 hx hZ hown (hw _ (List.mem_of_getElem? (i := 12) rfl)) (hw _ (List.mem_of_getElem? (i := 13) rfl)) (hw _ (List.mem_of_getElem? (i := 14) rfl)) e0 (g := (mkF m 1 #[.val (.ref a5), .val (.ref ca), .val (.int (0 : Int32)), .val (.int (2 : Int32)), .val .null, .unset] [(.ref a5)])) rfl (by rw [hml]; rfl) rfl (hb hby djdk42m149_1) (by decide) (W := 0) (by show 2 * 0 + _ ≤ _; exact Nat.le_of_eq rfl) (by decide)
  refine Rch.st (fun _ k => st437 _ k) ?_
  show Rch p e below T437 (mkF m 4 #[.val (.ref a5), .val (.ref ca), .val (.int (0 : Int32)), .val (.int (2 : Int32)), .val .null, .unset] []) _
  refine w_iloadN (pc' := 5) X437 hx hby djdk42m149_4 rfl rfl ?_
  refine w_ifYes (pc' := 27) X437 hx hby djdk42m149_5 (XT.i0_ne_t (by decide)) (by decide) ?_
  obtain ⟨T438, X438, e438, st438⟩ := getS X437 hx hZ hown (host := "") (hw _ (List.mem_of_getElem? (i := 48) rfl)) Via.refl e437 (O2.ext Old0.2) (g := (mkF m 27 #[.val (.ref a5), .val (.ref ca), .val (.int (0 : Int32)), .val (.int (2 : Int32)), .val .null, .unset] [])) rfl (hb hby djdk42m149_27)
  refine Rch.st (fun _ k => st438 _ k) ?_
  show Rch p e below T438 (mkF m 30 #[.val (.ref a5), .val (.ref ca), .val (.int (0 : Int32)), .val (.int (2 : Int32)), .val .null, .unset] [(.int G1)]) _
  refine w_ifNo (pc' := 33) X438 hx hby djdk42m149_30 (XT.i0_eq_f (P5)) rfl ?_
  refine w_aloadN (pc' := 34) X438 hx hby djdk42m149_33 rfl rfl rfl ?_
  refine w_iloadN (pc' := 35) X438 hx hby djdk42m149_34 rfl rfl ?_
  refine w_iloadN (pc' := 36) X438 hx hby djdk42m149_35 rfl rfl ?_
  obtain ⟨_, _, ⟨T439, L439, k439, n439⟩, -, X439, ⟨Lc439, hQ439, l439, y439, z439⟩, st439⟩ := Jvm.LawKit.callS X438 hx (y := (⟨"java/lang/StringUTF16", "compress", "([CII)[B"⟩ : MethodName)) hown (mvT hZ (hw _ (List.mem_of_getElem? (i := 50) rfl))) (mvT hZ (hw _ (List.mem_of_getElem? (i := 51) rfl))) (mvT hZ (hw _ (List.mem_of_getElem? (i := 52) rfl))) (mvT hZ (hw _ (List.mem_of_getElem? (i := 53) rfl))) (by decide) (backOf (W := 0) (rm_cmp3_2_1 l Z a0 hw [] ca kc cc0 cc1 h0 n0 Z0 (SA) (SH) (SL) f8 (hg0) (hx1) (hn1) (hm1) Old0) hZ (hw _ (List.mem_of_getElem? (i := 53) rfl)) (hw _ (List.mem_of_getElem? (i := 52) rfl)) (by decide) (by decide)) (g := (mkF m 36 #[.val (.ref a5), .val (.ref ca), .val (.int (0 : Int32)), .val (.int (2 : Int32)), .val .null, .unset] [(.int (2 : Int32)), (.int (0 : Int32)), (.ref ca)])) rfl (by rw [hml]; rfl) (argsL := [(.ref ca), (.int (0 : Int32)), (.int (2 : Int32))]) (rest := []) (lenOf pd___CII__B rfl) rfl (by show 2 * 0 + _ ≤ _; exact Nat.le_of_eq rfl) (hb hby djdk42m149_36) (fun _ _ => ⟨rfl, e438, (by decide : 0 + 2 ≤ _), (by decide : 0 + 6 ≤ _)⟩)
  dsimp only [Pt.U, Pt.locs, Pt.cells, Pt.slots] at X439 l439 y439 z439 st439 hQ439
  subst l439 y439 z439
  obtain ⟨t_439, kt_439, rfl, NQ439, K439, pq439_0, fq439_0⟩ := hQ439
  have N440 := Fr.app N0 NQ439
  have ne441 : a5 ≠ t_439 := Nat.ne_of_lt (Nat.lt_of_lt_of_le f5.lt pq439_0)
  have ne442 : ca ≠ t_439 := Nat.ne_of_lt (Nat.lt_of_lt_of_le f8.lt pq439_0)
  have ge443 : n0 ≤ t_439 := Nat.le_trans Z0 pq439_0
  have f444 : Exa Z T439.heap a5 "java/lang/String" := f5.keep K439
  have f445 : Fld Z T439.heap a5 "java/lang/String" "coder" "B" (.int (0 : Int32)) := f6.keep K439 nin0
  have f446 : Fld Z T439.heap a5 "java/lang/String" "value" "[B" .null := f7.keep K439 nin0
  have f447 : Arv Z T439.heap ca kc .char (2 : Int32) [(.int cc0), (.int cc1)] (.int (0 : Int32)) := f8.keep K439 nin0
  have Old448 := Old0.keep K439 all0
  have Kp449 : Keep h0 T439.heap [a5] := K00.trans K439 all0
  have Z450 := Nat.le_trans Z0 K439.1
  refine Rch.st (fun _ k => st439 _ k) ?_
  show Rch p e below T439 (mkF m 39 #[.val (.ref a5), .val (.ref ca), .val (.int (0 : Int32)), .val (.int (2 : Int32)), .val .null, .unset] [(.ref t_439)]) _
  refine w_astore (pc' := 41) (l' := #[.val (.ref a5), .val (.ref ca), .val (.int (0 : Int32)), .val (.int (2 : Int32)), .val .null, .val (.ref t_439)]) X439 hx hby djdk42m149_39 rfl rfl rfl ?_
  refine w_aloadN (pc' := 42) X439 hx hby djdk42m149_41 rfl rfl rfl ?_
  refine w_aload (pc' := 44) X439 hx hby djdk42m149_42 rfl rfl rfl ?_
  refine w_iloadN (pc' := 45) X439 hx hby djdk42m149_44 rfl rfl ?_
  obtain ⟨_, _, ⟨T451, L451, k451, n451⟩, -, X451, ⟨Lc451, hQ451, l451, y451, z451⟩, st451⟩ := Jvm.LawKit.callS X439 hx (y := (⟨"java/lang/StringUTF16", "coderFromArrayLen", "([BI)B"⟩ : MethodName)) hown (mvT hZ (hw _ (List.mem_of_getElem? (i := 57) rfl))) (mvT hZ (hw _ (List.mem_of_getElem? (i := 58) rfl))) (mvT hZ (hw _ (List.mem_of_getElem? (i := 52) rfl))) (mvT hZ (hw _ (List.mem_of_getElem? (i := 59) rfl))) (by decide) (backOf (W := 1) (rm_cfl l Z a0 hw [] t_439 kt_439 (2 : Int32) (4 : Int32) ([(.int (own_lo cc0)), (.int (own_hi cc0)), (.int (own_lo cc1)), (.int (own_hi cc1))]) (.int (0 : Int32)) T439.heap n0 Z450 fq439_0) hZ (hw _ (List.mem_of_getElem? (i := 59) rfl)) (hw _ (List.mem_of_getElem? (i := 52) rfl)) (by decide) (by decide)) (g := (mkF m 45 #[.val (.ref a5), .val (.ref ca), .val (.int (0 : Int32)), .val (.int (2 : Int32)), .val .null, .val (.ref t_439)] [(.int (2 : Int32)), (.ref t_439), (.ref a5)])) rfl (by rw [hml]; rfl) (argsL := [(.ref t_439), (.int (2 : Int32))]) (rest := [(.ref a5)]) (lenOf pd___BI_B rfl) rfl (by show 2 * 0 + _ ≤ _; exact Nat.le_of_eq rfl) (hb hby djdk42m149_45) (fun _ _ => ⟨rfl, (rfl : T439.heap = T439.heap), (by decide : 2 + 0 ≤ _), (by decide : 6 + 0 ≤ _)⟩)
  dsimp only [Pt.U, Pt.locs, Pt.cells, Pt.slots] at X451 l451 y451 z451 st451 hQ451
  subst l451 y451 z451
  obtain ⟨rfl, NQ451, K451⟩ := hQ451
  have N452 := Fr.app N440 NQ451
  refine Rch.st (fun _ k => st451 _ k) ?_
  show Rch p e below T451 (mkF m 48 #[.val (.ref a5), .val (.ref ca), .val (.int (0 : Int32)), .val (.int (2 : Int32)), .val .null, .val (.ref t_439)] [(.int ((XT.ushr ((2 : Int32) - (4 : Int32)) (31 : Int32))).toInt8.toInt32), (.ref a5)]) _
  have r453 : ((XT.ushr ((2 : Int32) - (4 : Int32)) (31 : Int32))).toInt8.toInt32 = (1 : Int32) := by decide
  rw [r453]
  show Rch p e below T451 (mkF m 48 #[.val (.ref a5), .val (.ref ca), .val (.int (0 : Int32)), .val (.int (2 : Int32)), .val .null, .val (.ref t_439)] [(.int (1 : Int32)), (.ref a5)]) _
  obtain ⟨T454, h454, X454, e454, W454, st454⟩ := putF X451 hx hZ hown (host := "") (Or.inl (hw _ (List.mem_of_getElem? (i := 22) rfl))) Via.refl K451 f445 f444 (Or.inr ⟨(hw _ (List.mem_of_getElem? (i := 18) rfl)), rfl, hnm⟩) (hw _ (List.mem_of_getElem? (i := 3) rfl)) (ty := .byte) (by decide) rfl rfl (g := (mkF m 48 #[.val (.ref a5), .val (.ref ca), .val (.int (0 : Int32)), .val (.int (2 : Int32)), .val .null, .val (.ref t_439)] [(.int (1 : Int32)), (.ref a5)])) rfl rfl (hb hby djdk42m149_48)
  have N455 := Fr.snoc X454 N452 ga
  have f456 : Exa Z h454 a5 "java/lang/String" := f444.wr W454
  have f457 : Fld Z h454 a5 "java/lang/String" "coder" "B" (.int (1 : Int32)) := f445.same W454
  have f458 : Fld Z h454 a5 "java/lang/String" "value" "[B" .null := f446.other W454 (Or.inr (slot_ne (t := (.array .byte)) (t' := .byte) (Or.inr (hw _ (List.mem_of_getElem? (i := 17) rfl))) (Or.inr (hw _ (List.mem_of_getElem? (i := 18) rfl))) (by decide) (by decide) (by decide)))
  have f459 : Arv Z h454 ca kc .char (2 : Int32) [(.int cc0), (.int cc1)] (.int (0 : Int32)) := f447.other W454 (Ne.symm nca)
  have f460 : Arv Z h454 t_439 kt_439 .byte (4 : Int32) [(.int (own_lo cc0)), (.int (own_hi cc0)), (.int (own_lo cc1)), (.int (own_hi cc1))] (.int (0 : Int32)) := fq439_0.other W454 (Ne.symm ne441)
  have Old461 := Old448.wr W454 ga
  have Z462 := Nat.le_trans Z450 (Keep.of_wr W454).1
  have Kp463 : Keep h0 h454 [a5] := Kp449.wr W454 (Or.inl (List.mem_of_getElem? (i := 0) rfl))
  refine Rch.st (fun _ k => st454 _ k) ?_
  show Rch p e below T454 (mkF m 51 #[.val (.ref a5), .val (.ref ca), .val (.int (0 : Int32)), .val (.int (2 : Int32)), .val .null, .val (.ref t_439)] []) _
  refine w_aloadN (pc' := 52) X454 hx hby djdk42m149_51 rfl rfl rfl ?_
  refine w_aload (pc' := 54) X454 hx hby djdk42m149_52 rfl rfl rfl ?_
  obtain ⟨T464, h464, X464, e464, W464, st464⟩ := putF X454 hx hZ hown (host := "") (Or.inl (hw _ (List.mem_of_getElem? (i := 21) rfl))) Via.refl e454 f458 f456 (Or.inr ⟨(hw _ (List.mem_of_getElem? (i := 17) rfl)), rfl, hnm⟩) (hw _ (List.mem_of_getElem? (i := 3) rfl)) (ty := (.array .byte)) (by decide) rfl rfl (g := (mkF m 54 #[.val (.ref a5), .val (.ref ca), .val (.int (0 : Int32)), .val (.int (2 : Int32)), .val .null, .val (.ref t_439)] [(.ref t_439), (.ref a5)])) rfl rfl (hb hby djdk42m149_54)
  have N465 := Fr.snoc X464 N455 ga
  have f466 : Exa Z h464 a5 "java/lang/String" := f456.wr W464
  have f467 : Fld Z h464 a5 "java/lang/String" "coder" "B" (.int (1 : Int32)) := f457.other W464 (Or.inr (slot_ne (t := .byte) (t' := (.array .byte)) (Or.inr (hw _ (List.mem_of_getElem? (i := 18) rfl))) (Or.inr (hw _ (List.mem_of_getElem? (i := 17) rfl))) (by decide) (by decide) (by decide)))
  have f468 : Fld Z h464 a5 "java/lang/String" "value" "[B" (.ref t_439) := f458.same W464
  have f469 : Arv Z h464 ca kc .char (2 : Int32) [(.int cc0), (.int cc1)] (.int (0 : Int32)) := f459.other W464 (Ne.symm nca)
  have f470 : Arv Z h464 t_439 kt_439 .byte (4 : Int32) [(.int (own_lo cc0)), (.int (own_hi cc0)), (.int (own_lo cc1)), (.int (own_hi cc1))] (.int (0 : Int32)) := f460.other W464 (Ne.symm ne441)
  have Old471 := Old461.wr W464 ga
  have Z472 := Nat.le_trans Z462 (Keep.of_wr W464).1
  have Kp473 : Keep h0 h464 [a5] := Kp463.wr W464 (Or.inl (List.mem_of_getElem? (i := 0) rfl))
  refine Rch.st (fun _ k => st464 _ k) ?_
  show Rch p e below T464 (mkF m 57 #[.val (.ref a5), .val (.ref ca), .val (.int (0 : Int32)), .val (.int (2 : Int32)), .val .null, .val (.ref t_439)] []) _
  exact Rch.ret0 X464 hx Bd.returns (hb hby djdk42m149_57) (by rw [e464]; exact ⟨t_439, kt_439, rfl, N465, Kp473, (Nat.le_trans K00.1 pq439_0), f467, f468, f470⟩) (by decide) (by decide)

theorem ef_rm_init1_2_1 (m : MethodId) (G1 : Int32) (a5 : Addr) (ca : Addr) (kc : ClassId) (cc0 : Int32) (cc1 : Int32)  : entryFrame m #[(.ref a5), (.ref ca)] 2 = mkF m 0 #[.val (.ref a5), .val (.ref ca)] [] := by  first | (simp [entryFrame, mkF, argsToLocals, Value.category, maxLocals]; done) | rfl
def Q_rm_init1_2_1 (Z : State) (G1 : Int32) (a5 : Addr) (ca : Addr) (kc : ClassId) (cc0 : Int32) (cc1 : Int32) (h0 : Heap) (n0 : Nat) (v : Option Value) (h : Heap) (L : List Loc) : Prop := ∃ (t : Addr) (kt : ClassId), (v = none) ∧ (Fr n0 L) ∧ (Keep h0 h [a5]) ∧ (h0.size ≤ t) ∧ (Fld Z h a5 "java/lang/String" "coder" "B" (.int (1 : Int32))) ∧ (Fld Z h a5 "java/lang/String" "value" "[B" (.ref t)) ∧ (Arv Z h t kt .byte (4 : Int32) [(.int (own_lo cc0)), (.int (own_hi cc0)), (.int (own_lo cc1)), (.int (own_hi cc1))] (.int (0 : Int32)))
set_option maxRecDepth 65536 in
set_option maxHeartbeats 40000000 in
theorem rm_init1_2_1 (l : Launch) (Z : State) (a0 : Array Value) (hw : ∀ d ∈ tables_1, d.before a0 Z = true) (ws : List Jvm.Cond) (G1 : Int32) (a5 : Addr) (ca : Addr) (kc : ClassId) (cc0 : Int32) (cc1 : Int32) (h0 : Heap) (n0 : Nat) (Z0 : n0 ≤ h0.size) (O2 : Sta Z Z.heap "java/lang/String" "COMPACT_STRINGS" "Z" (.int G1)) (P5 : ¬ G1 = 0) (SA : Sta Z Z.heap "java/lang/StringUTF16" "$assertionsDisabled" "Z" (.int 1)) (SH : Sta Z Z.heap "java/lang/StringUTF16" "HI_BYTE_SHIFT" "I" (.int 0)) (SL : Sta Z Z.heap "java/lang/StringUTF16" "LO_BYTE_SHIFT" "I" (.int 8)) (f5 : Exa Z h0 a5 "java/lang/String") (f6 : Fld Z h0 a5 "java/lang/String" "coder" "B" (.int (0 : Int32))) (f7 : Fld Z h0 a5 "java/lang/String" "value" "[B" .null) (f8 : Arv Z h0 ca kc .char (2 : Int32) [(.int cc0), (.int cc1)] (.int (0 : Int32))) (ga : n0 ≤ a5) (nca : a5 ≠ ca) (hg0 : ¬ (255 : Int32) < cc0) (hx1 : (255 : Int32) < cc1) (hn1 : ¬ cc1 < 0) (hm1 : ¬ (65535 : Int32) < cc1) (Old0 : OldL Z n0 h0) :
    MetFree l (⟨"java/lang/String", "<init>", "([C)V"⟩ : MethodName) (head1 (Jvm.Cond.code (⟨"java/lang/String", "<init>", "([C)V"⟩ : MethodName) jdk_42_method_3_code 2 none :: ws) ({ frames := 5, cells := 2, slots := 6, locals := 74 } : Room)) (fun a U => a = #[(.ref a5), (.ref ca)] ∧ Z.Warmed39 U.vm ∧ U.heap = h0) (fun _ _ _ _ _ => True) (fun _ U o U' => ∃ v L, o = .returned v ∧ Q_rm_init1_2_1 Z G1 a5 ca kc cc0 cc1 h0 n0 v U'.heap L ∧ FrameEnd U o U' L ({ frames := 5, cells := 2, slots := 6, locals := 74 } : Room).cells ({ frames := 5, cells := 2, slots := 6, locals := 74 } : Room).slots) := by
  refine MetFree.of_bodySF (plainFor_of_name pn_java_lang_String) hisR ?_
  intro p e s m args below meth c s₁ Bd hml0 hP hK
  obtain ⟨rfl, hZ, hh⟩ := hP
  have hx := Bd.exec
  have hby := Bd.bytes
  have hml : c.maxLocals = 2 := hml0
  have hown : s.vm.findClass "java/lang/String" = some m.cls := findClass_of_methodNamed Bd.named
  have hnm := (name_of_methodNamed Bd.named Bd.method).1
  have X0 : Stand p l e ({ frames := 5, cells := 2, slots := 6, locals := 74 } : Room) s m #[(.ref a5), (.ref ca)] below meth c s₁ [] 0 0 := Stand.of_body Bd
  have e0 : s₁.heap = h0 := by rw [← hh, Bd.state]; rfl
  have N0 := Fr.nil n0
  have K00 : Keep h0 h0 [a5] := Keep.refl _ _
  have hlk0 : meth.locks = false := by first | assumption | exact BodyLoose.notSynchronized (by assumption) | exact Body.notSynchronized (by assumption)
  show Rch p e below s₁ (entryFrame m #[(.ref a5), (.ref ca)] 2) (FinP s (Q_rm_init1_2_1 Z G1 a5 ca kc cc0 cc1 h0 n0) 2 6)
  refine Rch.cast (ef_rm_init1_2_1 m G1 a5 ca kc cc0 cc1) ?_
  show Rch p e below s₁ (mkF m 0 #[.val (.ref a5), .val (.ref ca)] []) _
  refine w_aloadN (pc' := 1) X0 hx hby djdk42m3_0 rfl rfl rfl ?_
  refine w_aloadN (pc' := 2) X0 hx hby djdk42m3_1 rfl rfl rfl ?_
  refine w_iconst (pc' := 3) (v := 0) X0 hx hby djdk42m3_2 rfl rfl ?_
  refine w_aloadN (pc' := 4) X0 hx hby djdk42m3_3 rfl rfl rfl ?_
  refine Rch.st (fun _ k => own_alen X0 hx hZ e0 f8 rfl rfl (hb hby djdk42m3_4) k) ?_
  show Rch p e below s₁ (mkF m 5 #[.val (.ref a5), .val (.ref ca)] [(.int (2 : Int32)), (.int (0 : Int32)), (.ref ca), (.ref a5)]) _
  refine w_aconstNull (pc' := 6) X0 hx hby djdk42m3_5 rfl ?_
  obtain ⟨_, _, ⟨T474, L474, k474, n474⟩, -, X474, ⟨Lc474, hQ474, l474, y474, z474⟩, st474⟩ := X0.specialBack hx (y := (⟨"java/lang/String", "<init>", "([CIILjava/lang/Void;)V"⟩ : MethodName)) rfl hown (mvT hZ (hw _ (List.mem_of_getElem? (i := 8) rfl))) (mvT hZ (hw _ (List.mem_of_getElem? (i := 9) rfl))) (mvT hZ (hw _ (List.mem_of_getElem? (i := 11) rfl))) (by decide) (backOf (W := 0) (rm_init4_2_1 l Z a0 hw [] G1 a5 ca kc cc0 cc1 h0 n0 Z0 (O2) (P5) (SA) (SH) (SL) f5 f6 f7 f8 (ga) (nca) (hg0) (hx1) (hn1) (hm1) Old0) hZ (hw _ (List.mem_of_getElem? (i := 11) rfl)) (hw _ (List.mem_of_getElem? (i := 4) rfl)) (by decide) (by decide)) (g := (mkF m 6 #[.val (.ref a5), .val (.ref ca)] [.null, (.int (2 : Int32)), (.int (0 : Int32)), (.ref ca), (.ref a5)])) rfl (by rw [hml]; rfl) (Steps.refl _) (a := a5) (argsL := [(.ref ca), (.int (0 : Int32)), (.int (2 : Int32)), .null]) (rest := []) (lenOf pd___CIILjava_lang_Void__V rfl) rfl (by show 2 * 0 + _ ≤ _; exact Nat.le_of_eq rfl) (hb hby djdk42m3_6) (fun _ _ => ⟨rfl, e0, (by decide : 0 + 2 ≤ _), (by decide : 0 + 6 ≤ _)⟩)
  dsimp only [Pt.U, Pt.locs, Pt.cells, Pt.slots] at X474 l474 y474 z474 st474 hQ474
  subst l474 y474 z474
  obtain ⟨t_474, kt_474, rfl, NQ474, K474, pq474_0, fq474_0, fq474_1, fq474_2⟩ := hQ474
  have N475 := Fr.app N0 NQ474
  have ne476 : a5 ≠ t_474 := Nat.ne_of_lt (Nat.lt_of_lt_of_le f5.lt pq474_0)
  have ne477 : ca ≠ t_474 := Nat.ne_of_lt (Nat.lt_of_lt_of_le f8.lt pq474_0)
  have ge478 : n0 ≤ t_474 := Nat.le_trans Z0 pq474_0
  have f479 : Exa Z T474.heap a5 "java/lang/String" := f5.keep K474
  have f480 : Arv Z T474.heap ca kc .char (2 : Int32) [(.int cc0), (.int cc1)] (.int (0 : Int32)) := f8.keep K474 (ninS (Ne.symm nca) nin0)
  have Old481 := Old0.keep K474 (allS ga all0)
  have Kp482 : Keep h0 T474.heap [a5] := K00.trans K474 (allS (Or.inl (List.mem_of_getElem? (i := 0) rfl)) all0)
  have Z483 := Nat.le_trans Z0 K474.1
  refine Rch.st (fun _ k => st474.trans k) ?_
  show Rch p e below T474 (mkF m 9 #[.val (.ref a5), .val (.ref ca)] []) _
  exact Rch.ret0 X474 hx Bd.returns (hb hby djdk42m3_9) (by rw [(rfl : T474.heap = T474.heap)]; exact ⟨t_474, kt_474, rfl, N475, Kp482, (Nat.le_trans K00.1 pq474_0), fq474_0, fq474_1, fq474_2⟩) (by decide) (by decide)

theorem ef_rm_cmp5_3 (m : MethodId) (ca : Addr) (kc : ClassId) (bd : Addr) (kd : ClassId) (cc0 : Int32) (cc1 : Int32) (cc2 : Int32)  : entryFrame m #[(.ref ca), (.int (0 : Int32)), (.ref bd), (.int (0 : Int32)), (.int (3 : Int32))] 7 = mkF m 0 #[.val (.ref ca), .val (.int (0 : Int32)), .val (.ref bd), .val (.int (0 : Int32)), .val (.int (3 : Int32)), .unset, .unset] [] := by  first | (simp [entryFrame, mkF, argsToLocals, Value.category, maxLocals]; done) | rfl
def Q_rm_cmp5_3 (Z : State) (ca : Addr) (kc : ClassId) (bd : Addr) (kd : ClassId) (cc0 : Int32) (cc1 : Int32) (cc2 : Int32) (h0 : Heap) (n0 : Nat) (v : Option Value) (h : Heap) (L : List Loc) : Prop := (v = some (.int (3 : Int32))) ∧ (Fr n0 L) ∧ (Keep h0 h [bd]) ∧ (Arv Z h bd kd .byte (3 : Int32) [(.int (own_by cc0)), (.int (own_by cc1)), (.int (own_by cc2))] (.int (0 : Int32)))
set_option maxRecDepth 65536 in
set_option maxHeartbeats 40000000 in
theorem rm_cmp5_3 (l : Launch) (Z : State) (a0 : Array Value) (hw : ∀ d ∈ tables_1, d.before a0 Z = true) (ws : List Jvm.Cond) (ca : Addr) (kc : ClassId) (bd : Addr) (kd : ClassId) (cc0 : Int32) (cc1 : Int32) (cc2 : Int32) (h0 : Heap) (n0 : Nat) (Z0 : n0 ≤ h0.size) (f0 : Arv Z h0 ca kc .char (3 : Int32) [(.int cc0), (.int cc1), (.int cc2)] (.int (0 : Int32))) (f1 : Arv Z h0 bd kd .byte (3 : Int32) [(.int (0 : Int32)), (.int (0 : Int32)), (.int (0 : Int32))] (.int (0 : Int32))) (gd : n0 ≤ bd) (ncd : ca ≠ bd) (hg0 : ¬ (255 : Int32) < cc0) (hg1 : ¬ (255 : Int32) < cc1) (hg2 : ¬ (255 : Int32) < cc2) :
    MetFree l (⟨"java/lang/StringUTF16", "compress", "([CI[BII)I"⟩ : MethodName) (head1 (Jvm.Cond.code (⟨"java/lang/StringUTF16", "compress", "([CI[BII)I"⟩ : MethodName) jdk_52_method_21_code 7 (some .int) :: ws) ({ frames := 0, cells := 0, slots := 0, locals := 0 } : Room)) (fun a U => a = #[(.ref ca), (.int (0 : Int32)), (.ref bd), (.int (0 : Int32)), (.int (3 : Int32))] ∧ Z.Warmed39 U.vm ∧ U.heap = h0) (fun _ _ _ _ _ => True) (fun _ U o U' => ∃ v L, o = .returned v ∧ Q_rm_cmp5_3 Z ca kc bd kd cc0 cc1 cc2 h0 n0 v U'.heap L ∧ FrameEnd U o U' L ({ frames := 0, cells := 0, slots := 0, locals := 0 } : Room).cells ({ frames := 0, cells := 0, slots := 0, locals := 0 } : Room).slots) := by
  refine MetFree.of_bodySF (plainFor_of_name pn_java_lang_StringUTF16) hisR ?_
  intro p e s m args below meth c s₁ Bd hml0 hP hK
  obtain ⟨rfl, hZ, hh⟩ := hP
  have hx := Bd.exec
  have hby := Bd.bytes
  have hml : c.maxLocals = 7 := hml0
  have hown : s.vm.findClass "java/lang/StringUTF16" = some m.cls := findClass_of_methodNamed Bd.named
  have hnm := (name_of_methodNamed Bd.named Bd.method).1
  have X0 : Stand p l e ({ frames := 0, cells := 0, slots := 0, locals := 0 } : Room) s m #[(.ref ca), (.int (0 : Int32)), (.ref bd), (.int (0 : Int32)), (.int (3 : Int32))] below meth c s₁ [] 0 0 := Stand.of_body Bd
  have e0 : s₁.heap = h0 := by rw [← hh, Bd.state]; rfl
  have N0 := Fr.nil n0
  have K00 : Keep h0 h0 [bd] := Keep.refl _ _
  have hlk0 : meth.locks = false := by first | assumption | exact BodyLoose.notSynchronized (by assumption) | exact Body.notSynchronized (by assumption)
  show Rch p e below s₁ (entryFrame m #[(.ref ca), (.int (0 : Int32)), (.ref bd), (.int (0 : Int32)), (.int (3 : Int32))] 7) (FinP s (Q_rm_cmp5_3 Z ca kc bd kd cc0 cc1 cc2 h0 n0) 0 0)
  refine Rch.cast (ef_rm_cmp5_3 m ca kc bd kd cc0 cc1 cc2) ?_
  show Rch p e below s₁ (mkF m 0 #[.val (.ref ca), .val (.int (0 : Int32)), .val (.ref bd), .val (.int (0 : Int32)), .val (.int (3 : Int32)), .unset, .unset] []) _
  refine w_iconst (pc' := 1) (v := 0) X0 hx hby djdk52m21_0 rfl rfl ?_
  refine w_istore (pc' := 3) (l' := #[.val (.ref ca), .val (.int (0 : Int32)), .val (.ref bd), .val (.int (0 : Int32)), .val (.int (3 : Int32)), .val (.int (0 : Int32)), .unset]) X0 hx hby djdk52m21_1 rfl rfl ?_
  refine w_iload (pc' := 5) X0 hx hby djdk52m21_3 rfl rfl ?_
  refine w_iload (pc' := 7) X0 hx hby djdk52m21_5 rfl rfl ?_
  refine w_icmpNo (pc' := 10) X0 hx hby djdk52m21_7 (XT.ii_ge_f (by decide)) rfl ?_
  refine w_aloadN (pc' := 11) X0 hx hby djdk52m21_10 rfl rfl rfl ?_
  refine w_iloadN (pc' := 12) X0 hx hby djdk52m21_11 rfl rfl ?_
  refine Rch.st (fun _ k => own_ldC X0 hx hZ e0 f0 (j := (0 : Int32)) ⟨by decide, by decide⟩ (by rfl) rfl rfl (hb hby djdk52m21_12) k) ?_
  show Rch p e below s₁ (mkF m 13 #[.val (.ref ca), .val (.int (0 : Int32)), .val (.ref bd), .val (.int (0 : Int32)), .val (.int (3 : Int32)), .val (.int (0 : Int32)), .unset] [(.int cc0)]) _
  refine w_istore (pc' := 15) (l' := #[.val (.ref ca), .val (.int (0 : Int32)), .val (.ref bd), .val (.int (0 : Int32)), .val (.int (3 : Int32)), .val (.int (0 : Int32)), .val (.int cc0)]) X0 hx hby djdk52m21_13 rfl rfl ?_
  refine w_iload (pc' := 17) X0 hx hby djdk52m21_15 rfl rfl ?_
  refine w_sipush (pc' := 20) (v := 255) X0 hx hby djdk52m21_17 rfl rfl ?_
  refine w_icmpYes (pc' := 26) X0 hx hby djdk52m21_20 (XT.ii_le_t (hg0)) (by decide) ?_
  refine w_aloadN (pc' := 27) X0 hx hby djdk52m21_26 rfl rfl rfl ?_
  refine w_iloadN (pc' := 28) X0 hx hby djdk52m21_27 rfl rfl ?_
  refine w_iload (pc' := 30) X0 hx hby djdk52m21_28 rfl rfl ?_
  refine w_i2b (pc' := 31) X0 hx hby djdk52m21_30 rfl ?_
  obtain ⟨T484, h484, X484, e484, W484, V484, st484⟩ := own_stB X0 hx hZ e0 f1 (j := (0 : Int32)) ⟨by decide, by decide⟩ 0 (by decide) (by decide : 0 < 3) (g := (mkF m 31 #[.val (.ref ca), .val (.int (0 : Int32)), .val (.ref bd), .val (.int (0 : Int32)), .val (.int (3 : Int32)), .val (.int (0 : Int32)), .val (.int cc0)] [(.int (cc0).toInt8.toInt32), (.int (0 : Int32)), (.ref bd)])) rfl rfl (hb hby djdk52m21_31)
  have N485 := Fr.snoc X484 N0 gd
  have f486 : Arv Z h484 ca kc .char (3 : Int32) [(.int cc0), (.int cc1), (.int cc2)] (.int (0 : Int32)) := f0.other W484 ncd
  have Z487 := Nat.le_trans Z0 (Keep.of_wr W484).1
  have Kp488 : Keep h0 h484 [bd] := K00.wr W484 (Or.inl (List.mem_of_getElem? (i := 0) rfl))
  have f489 : Arv Z h484 bd kd .byte (3 : Int32) [(.int ((cc0).toInt8.toInt32).toInt8.toInt32), (.int (0 : Int32)), (.int (0 : Int32))] (.int (0 : Int32)) := V484
  refine Rch.st (fun _ k => st484 _ k) ?_
  show Rch p e below T484 (mkF m 32 #[.val (.ref ca), .val (.int (0 : Int32)), .val (.ref bd), .val (.int (0 : Int32)), .val (.int (3 : Int32)), .val (.int (0 : Int32)), .val (.int cc0)] []) _
  refine w_iinc (pc' := 35) (w := (1 : Int32)) (l' := #[.val (.ref ca), .val (.int (1 : Int32)), .val (.ref bd), .val (.int (0 : Int32)), .val (.int (3 : Int32)), .val (.int (0 : Int32)), .val (.int cc0)]) X484 hx hby djdk52m21_32 rfl (by decide) rfl rfl ?_
  refine w_iinc (pc' := 38) (w := (1 : Int32)) (l' := #[.val (.ref ca), .val (.int (1 : Int32)), .val (.ref bd), .val (.int (1 : Int32)), .val (.int (3 : Int32)), .val (.int (0 : Int32)), .val (.int cc0)]) X484 hx hby djdk52m21_35 rfl (by decide) rfl rfl ?_
  refine w_iinc (pc' := 41) (w := (1 : Int32)) (l' := #[.val (.ref ca), .val (.int (1 : Int32)), .val (.ref bd), .val (.int (1 : Int32)), .val (.int (3 : Int32)), .val (.int (1 : Int32)), .val (.int cc0)]) X484 hx hby djdk52m21_38 rfl (by decide) rfl rfl ?_
  refine w_goto (pc' := 3) X484 hx hby djdk52m21_41 (by decide) ?_
  refine w_iload (pc' := 5) X484 hx hby djdk52m21_3 rfl rfl ?_
  refine w_iload (pc' := 7) X484 hx hby djdk52m21_5 rfl rfl ?_
  refine w_icmpNo (pc' := 10) X484 hx hby djdk52m21_7 (XT.ii_ge_f (by decide)) rfl ?_
  refine w_aloadN (pc' := 11) X484 hx hby djdk52m21_10 rfl rfl rfl ?_
  refine w_iloadN (pc' := 12) X484 hx hby djdk52m21_11 rfl rfl ?_
  refine Rch.st (fun _ k => own_ldC X484 hx hZ e484 f486 (j := (1 : Int32)) ⟨by decide, by decide⟩ (by rfl) rfl rfl (hb hby djdk52m21_12) k) ?_
  show Rch p e below T484 (mkF m 13 #[.val (.ref ca), .val (.int (1 : Int32)), .val (.ref bd), .val (.int (1 : Int32)), .val (.int (3 : Int32)), .val (.int (1 : Int32)), .val (.int cc0)] [(.int cc1)]) _
  refine w_istore (pc' := 15) (l' := #[.val (.ref ca), .val (.int (1 : Int32)), .val (.ref bd), .val (.int (1 : Int32)), .val (.int (3 : Int32)), .val (.int (1 : Int32)), .val (.int cc1)]) X484 hx hby djdk52m21_13 rfl rfl ?_
  refine w_iload (pc' := 17) X484 hx hby djdk52m21_15 rfl rfl ?_
  refine w_sipush (pc' := 20) (v := 255) X484 hx hby djdk52m21_17 rfl rfl ?_
  refine w_icmpYes (pc' := 26) X484 hx hby djdk52m21_20 (XT.ii_le_t (hg1)) (by decide) ?_
  refine w_aloadN (pc' := 27) X484 hx hby djdk52m21_26 rfl rfl rfl ?_
  refine w_iloadN (pc' := 28) X484 hx hby djdk52m21_27 rfl rfl ?_
  refine w_iload (pc' := 30) X484 hx hby djdk52m21_28 rfl rfl ?_
  refine w_i2b (pc' := 31) X484 hx hby djdk52m21_30 rfl ?_
  obtain ⟨T490, h490, X490, e490, W490, V490, st490⟩ := own_stB X484 hx hZ e484 f489 (j := (1 : Int32)) ⟨by decide, by decide⟩ 1 (by decide) (by decide : 1 < 3) (g := (mkF m 31 #[.val (.ref ca), .val (.int (1 : Int32)), .val (.ref bd), .val (.int (1 : Int32)), .val (.int (3 : Int32)), .val (.int (1 : Int32)), .val (.int cc1)] [(.int (cc1).toInt8.toInt32), (.int (1 : Int32)), (.ref bd)])) rfl rfl (hb hby djdk52m21_31)
  have N491 := Fr.snoc X490 N485 gd
  have f492 : Arv Z h490 ca kc .char (3 : Int32) [(.int cc0), (.int cc1), (.int cc2)] (.int (0 : Int32)) := f486.other W490 ncd
  have Z493 := Nat.le_trans Z487 (Keep.of_wr W490).1
  have Kp494 : Keep h0 h490 [bd] := Kp488.wr W490 (Or.inl (List.mem_of_getElem? (i := 0) rfl))
  have f495 : Arv Z h490 bd kd .byte (3 : Int32) [(.int ((cc0).toInt8.toInt32).toInt8.toInt32), (.int ((cc1).toInt8.toInt32).toInt8.toInt32), (.int (0 : Int32))] (.int (0 : Int32)) := V490
  refine Rch.st (fun _ k => st490 _ k) ?_
  show Rch p e below T490 (mkF m 32 #[.val (.ref ca), .val (.int (1 : Int32)), .val (.ref bd), .val (.int (1 : Int32)), .val (.int (3 : Int32)), .val (.int (1 : Int32)), .val (.int cc1)] []) _
  refine w_iinc (pc' := 35) (w := (2 : Int32)) (l' := #[.val (.ref ca), .val (.int (2 : Int32)), .val (.ref bd), .val (.int (1 : Int32)), .val (.int (3 : Int32)), .val (.int (1 : Int32)), .val (.int cc1)]) X490 hx hby djdk52m21_32 rfl (by decide) rfl rfl ?_
  refine w_iinc (pc' := 38) (w := (2 : Int32)) (l' := #[.val (.ref ca), .val (.int (2 : Int32)), .val (.ref bd), .val (.int (2 : Int32)), .val (.int (3 : Int32)), .val (.int (1 : Int32)), .val (.int cc1)]) X490 hx hby djdk52m21_35 rfl (by decide) rfl rfl ?_
  refine w_iinc (pc' := 41) (w := (2 : Int32)) (l' := #[.val (.ref ca), .val (.int (2 : Int32)), .val (.ref bd), .val (.int (2 : Int32)), .val (.int (3 : Int32)), .val (.int (2 : Int32)), .val (.int cc1)]) X490 hx hby djdk52m21_38 rfl (by decide) rfl rfl ?_
  refine w_goto (pc' := 3) X490 hx hby djdk52m21_41 (by decide) ?_
  refine w_iload (pc' := 5) X490 hx hby djdk52m21_3 rfl rfl ?_
  refine w_iload (pc' := 7) X490 hx hby djdk52m21_5 rfl rfl ?_
  refine w_icmpNo (pc' := 10) X490 hx hby djdk52m21_7 (XT.ii_ge_f (by decide)) rfl ?_
  refine w_aloadN (pc' := 11) X490 hx hby djdk52m21_10 rfl rfl rfl ?_
  refine w_iloadN (pc' := 12) X490 hx hby djdk52m21_11 rfl rfl ?_
  refine Rch.st (fun _ k => own_ldC X490 hx hZ e490 f492 (j := (2 : Int32)) ⟨by decide, by decide⟩ (by rfl) rfl rfl (hb hby djdk52m21_12) k) ?_
  show Rch p e below T490 (mkF m 13 #[.val (.ref ca), .val (.int (2 : Int32)), .val (.ref bd), .val (.int (2 : Int32)), .val (.int (3 : Int32)), .val (.int (2 : Int32)), .val (.int cc1)] [(.int cc2)]) _
  refine w_istore (pc' := 15) (l' := #[.val (.ref ca), .val (.int (2 : Int32)), .val (.ref bd), .val (.int (2 : Int32)), .val (.int (3 : Int32)), .val (.int (2 : Int32)), .val (.int cc2)]) X490 hx hby djdk52m21_13 rfl rfl ?_
  refine w_iload (pc' := 17) X490 hx hby djdk52m21_15 rfl rfl ?_
  refine w_sipush (pc' := 20) (v := 255) X490 hx hby djdk52m21_17 rfl rfl ?_
  refine w_icmpYes (pc' := 26) X490 hx hby djdk52m21_20 (XT.ii_le_t (hg2)) (by decide) ?_
  refine w_aloadN (pc' := 27) X490 hx hby djdk52m21_26 rfl rfl rfl ?_
  refine w_iloadN (pc' := 28) X490 hx hby djdk52m21_27 rfl rfl ?_
  refine w_iload (pc' := 30) X490 hx hby djdk52m21_28 rfl rfl ?_
  refine w_i2b (pc' := 31) X490 hx hby djdk52m21_30 rfl ?_
  obtain ⟨T496, h496, X496, e496, W496, V496, st496⟩ := own_stB X490 hx hZ e490 f495 (j := (2 : Int32)) ⟨by decide, by decide⟩ 2 (by decide) (by decide : 2 < 3) (g := (mkF m 31 #[.val (.ref ca), .val (.int (2 : Int32)), .val (.ref bd), .val (.int (2 : Int32)), .val (.int (3 : Int32)), .val (.int (2 : Int32)), .val (.int cc2)] [(.int (cc2).toInt8.toInt32), (.int (2 : Int32)), (.ref bd)])) rfl rfl (hb hby djdk52m21_31)
  have N497 := Fr.snoc X496 N491 gd
  have f498 : Arv Z h496 ca kc .char (3 : Int32) [(.int cc0), (.int cc1), (.int cc2)] (.int (0 : Int32)) := f492.other W496 ncd
  have Z499 := Nat.le_trans Z493 (Keep.of_wr W496).1
  have Kp500 : Keep h0 h496 [bd] := Kp494.wr W496 (Or.inl (List.mem_of_getElem? (i := 0) rfl))
  have f501 : Arv Z h496 bd kd .byte (3 : Int32) [(.int ((cc0).toInt8.toInt32).toInt8.toInt32), (.int ((cc1).toInt8.toInt32).toInt8.toInt32), (.int ((cc2).toInt8.toInt32).toInt8.toInt32)] (.int (0 : Int32)) := V496
  refine Rch.st (fun _ k => st496 _ k) ?_
  show Rch p e below T496 (mkF m 32 #[.val (.ref ca), .val (.int (2 : Int32)), .val (.ref bd), .val (.int (2 : Int32)), .val (.int (3 : Int32)), .val (.int (2 : Int32)), .val (.int cc2)] []) _
  refine w_iinc (pc' := 35) (w := (3 : Int32)) (l' := #[.val (.ref ca), .val (.int (3 : Int32)), .val (.ref bd), .val (.int (2 : Int32)), .val (.int (3 : Int32)), .val (.int (2 : Int32)), .val (.int cc2)]) X496 hx hby djdk52m21_32 rfl (by decide) rfl rfl ?_
  refine w_iinc (pc' := 38) (w := (3 : Int32)) (l' := #[.val (.ref ca), .val (.int (3 : Int32)), .val (.ref bd), .val (.int (3 : Int32)), .val (.int (3 : Int32)), .val (.int (2 : Int32)), .val (.int cc2)]) X496 hx hby djdk52m21_35 rfl (by decide) rfl rfl ?_
  refine w_iinc (pc' := 41) (w := (3 : Int32)) (l' := #[.val (.ref ca), .val (.int (3 : Int32)), .val (.ref bd), .val (.int (3 : Int32)), .val (.int (3 : Int32)), .val (.int (3 : Int32)), .val (.int cc2)]) X496 hx hby djdk52m21_38 rfl (by decide) rfl rfl ?_
  refine w_goto (pc' := 3) X496 hx hby djdk52m21_41 (by decide) ?_
  refine w_iload (pc' := 5) X496 hx hby djdk52m21_3 rfl rfl ?_
  refine w_iload (pc' := 7) X496 hx hby djdk52m21_5 rfl rfl ?_
  refine w_icmpYes (pc' := 44) X496 hx hby djdk52m21_7 (XT.ii_ge_t (by decide)) (by decide) ?_
  refine w_iload (pc' := 46) X496 hx hby djdk52m21_44 rfl rfl ?_
  exact Rch.retV X496 hx Bd.returns rfl (Or.inl ⟨rfl, by simp, _, rfl⟩) (hb hby djdk52m21_46) (by rw [e496]; exact ⟨rfl, N497, Kp500, f501⟩) (by decide) (by decide)

theorem ef_rm_cmp3_3 (m : MethodId) (ca : Addr) (kc : ClassId) (cc0 : Int32) (cc1 : Int32) (cc2 : Int32)  : entryFrame m #[(.ref ca), (.int (0 : Int32)), (.int (3 : Int32))] 6 = mkF m 0 #[.val (.ref ca), .val (.int (0 : Int32)), .val (.int (3 : Int32)), .unset, .unset, .unset] [] := by  first | (simp [entryFrame, mkF, argsToLocals, Value.category, maxLocals]; done) | rfl
def Q_rm_cmp3_3 (Z : State) (ca : Addr) (kc : ClassId) (cc0 : Int32) (cc1 : Int32) (cc2 : Int32) (h0 : Heap) (n0 : Nat) (v : Option Value) (h : Heap) (L : List Loc) : Prop := ∃ (t : Addr) (kt : ClassId), (v = some (.ref t)) ∧ (Fr n0 L) ∧ (Keep h0 h []) ∧ (h0.size ≤ t) ∧ (Arv Z h t kt .byte (3 : Int32) [(.int (own_by cc0)), (.int (own_by cc1)), (.int (own_by cc2))] (.int (0 : Int32)))
set_option maxRecDepth 65536 in
set_option maxHeartbeats 40000000 in
theorem rm_cmp3_3 (l : Launch) (Z : State) (a0 : Array Value) (hw : ∀ d ∈ tables_1, d.before a0 Z = true) (ws : List Jvm.Cond) (ca : Addr) (kc : ClassId) (cc0 : Int32) (cc1 : Int32) (cc2 : Int32) (h0 : Heap) (n0 : Nat) (Z0 : n0 ≤ h0.size) (f0 : Arv Z h0 ca kc .char (3 : Int32) [(.int cc0), (.int cc1), (.int cc2)] (.int (0 : Int32))) (hg0 : ¬ (255 : Int32) < cc0) (hg1 : ¬ (255 : Int32) < cc1) (hg2 : ¬ (255 : Int32) < cc2) :
    MetFree l (⟨"java/lang/StringUTF16", "compress", "([CII)[B"⟩ : MethodName) (head1 (Jvm.Cond.code (⟨"java/lang/StringUTF16", "compress", "([CII)[B"⟩ : MethodName) jdk_52_method_16_code 6 (some (.array .byte)) :: ws) ({ frames := 1, cells := 1, slots := 3, locals := 18 } : Room)) (fun a U => a = #[(.ref ca), (.int (0 : Int32)), (.int (3 : Int32))] ∧ Z.Warmed39 U.vm ∧ U.heap = h0) (fun _ _ _ _ _ => True) (fun _ U o U' => ∃ v L, o = .returned v ∧ Q_rm_cmp3_3 Z ca kc cc0 cc1 cc2 h0 n0 v U'.heap L ∧ FrameEnd U o U' L ({ frames := 1, cells := 1, slots := 3, locals := 18 } : Room).cells ({ frames := 1, cells := 1, slots := 3, locals := 18 } : Room).slots) := by
  refine MetFree.of_bodySF (plainFor_of_name pn_java_lang_StringUTF16) hisR ?_
  intro p e s m args below meth c s₁ Bd hml0 hP hK
  obtain ⟨rfl, hZ, hh⟩ := hP
  have hx := Bd.exec
  have hby := Bd.bytes
  have hml : c.maxLocals = 6 := hml0
  have hown : s.vm.findClass "java/lang/StringUTF16" = some m.cls := findClass_of_methodNamed Bd.named
  have hnm := (name_of_methodNamed Bd.named Bd.method).1
  have X0 : Stand p l e ({ frames := 1, cells := 1, slots := 3, locals := 18 } : Room) s m #[(.ref ca), (.int (0 : Int32)), (.int (3 : Int32))] below meth c s₁ [] 0 0 := Stand.of_body Bd
  have e0 : s₁.heap = h0 := by rw [← hh, Bd.state]; rfl
  have N0 := Fr.nil n0
  have K00 : Keep h0 h0 [] := Keep.refl _ _
  have hlk0 : meth.locks = false := by first | assumption | exact BodyLoose.notSynchronized (by assumption) | exact Body.notSynchronized (by assumption)
  show Rch p e below s₁ (entryFrame m #[(.ref ca), (.int (0 : Int32)), (.int (3 : Int32))] 6) (FinP s (Q_rm_cmp3_3 Z ca kc cc0 cc1 cc2 h0 n0) 1 3)
  refine Rch.cast (ef_rm_cmp3_3 m ca kc cc0 cc1 cc2) ?_
  show Rch p e below s₁ (mkF m 0 #[.val (.ref ca), .val (.int (0 : Int32)), .val (.int (3 : Int32)), .unset, .unset, .unset] []) _
  refine w_iloadN (pc' := 1) X0 hx hby djdk52m16_0 rfl rfl ?_
  obtain ⟨T502, h502, kc502, X502, e502, E502, A502, st502⟩ := newP X0 hx hZ (hw _ (List.mem_of_getElem? (i := 16) rfl)) e0 (g := (mkF m 1 #[.val (.ref ca), .val (.int (0 : Int32)), .val (.int (3 : Int32)), .unset, .unset, .unset] [(.int (3 : Int32))])) rfl (hb hby djdk52m16_1) rfl (by decide : ¬ ((3 : Int32) < (0 : Int32))) (cap := 3) (by decide : (3 : Int32).toNatClampNeg ≤ 3) (by decide) (by decide) (by decide)
  obtain ⟨a502, g502⟩ : ∃ z, z = h0.size := ⟨_, rfl⟩
  rw [← g502] at A502 st502
  have ne503 : ca ≠ a502 := by rw [g502]; exact Nat.ne_of_lt f0.lt
  have ge504 : n0 ≤ a502 := Nat.le_trans Z0 (Nat.le_of_eq g502.symm)
  have f506 : Arv Z h502 ca kc .char (3 : Int32) [(.int cc0), (.int cc1), (.int cc2)] (.int (0 : Int32)) := f0.ext E502
  have Z507 := Nat.le_trans Z0 E502.1
  have Kp508 : Keep h0 h502 [] := K00.ext E502
  have f509 : Arv Z h502 a502 kc502 .byte (3 : Int32) [(.int (0 : Int32)), (.int (0 : Int32)), (.int (0 : Int32))] (.int (0 : Int32)) := (Arv.new A502 (by decide : ¬ ((3 : Int32) < (0 : Int32)))).pad (pad_rep [] (.int (0 : Int32)) 3)
  refine Rch.st (fun _ k => st502 _ k) ?_
  show Rch p e below T502 (mkF m 3 #[.val (.ref ca), .val (.int (0 : Int32)), .val (.int (3 : Int32)), .unset, .unset, .unset] [(.ref a502)]) _
  refine w_astoreN (pc' := 4) (l' := #[.val (.ref ca), .val (.int (0 : Int32)), .val (.int (3 : Int32)), .val (.ref a502), .unset, .unset]) X502 hx hby djdk52m16_3 rfl rfl rfl ?_
  refine w_aloadN (pc' := 5) X502 hx hby djdk52m16_4 rfl rfl rfl ?_
  refine w_iloadN (pc' := 6) X502 hx hby djdk52m16_5 rfl rfl ?_
  refine w_aloadN (pc' := 7) X502 hx hby djdk52m16_6 rfl rfl rfl ?_
  refine w_iconst (pc' := 8) (v := 0) X502 hx hby djdk52m16_7 rfl rfl ?_
  refine w_iloadN (pc' := 9) X502 hx hby djdk52m16_8 rfl rfl ?_
  obtain ⟨_, _, ⟨T510, L510, k510, n510⟩, -, X510, ⟨Lc510, hQ510, l510, y510, z510⟩, st510⟩ := Jvm.LawKit.callS X502 hx (y := (⟨"java/lang/StringUTF16", "compress", "([CI[BII)I"⟩ : MethodName)) hown (mvT hZ (hw _ (List.mem_of_getElem? (i := 54) rfl))) (mvT hZ (hw _ (List.mem_of_getElem? (i := 55) rfl))) (mvT hZ (hw _ (List.mem_of_getElem? (i := 52) rfl))) (mvT hZ (hw _ (List.mem_of_getElem? (i := 56) rfl))) (by decide) (backOf (W := 0) (rm_cmp5_3 l Z a0 hw [] ca kc a502 kc502 cc0 cc1 cc2 h502 n0 Z507 f506 f509 (ge504) (ne503) (hg0) (hg1) (hg2)) hZ (hw _ (List.mem_of_getElem? (i := 56) rfl)) (hw _ (List.mem_of_getElem? (i := 52) rfl)) (by decide) (by decide)) (g := (mkF m 9 #[.val (.ref ca), .val (.int (0 : Int32)), .val (.int (3 : Int32)), .val (.ref a502), .unset, .unset] [(.int (3 : Int32)), (.int (0 : Int32)), (.ref a502), (.int (0 : Int32)), (.ref ca)])) rfl (by rw [hml]; rfl) (argsL := [(.ref ca), (.int (0 : Int32)), (.ref a502), (.int (0 : Int32)), (.int (3 : Int32))]) (rest := []) (lenOf pd___CI_BII_I rfl) rfl (by show 2 * 0 + _ ≤ _; exact Nat.le_of_eq rfl) (hb hby djdk52m16_9) (fun _ _ => ⟨rfl, e502, (by decide : 1 + 0 ≤ _), (by decide : 3 + 0 ≤ _)⟩)
  dsimp only [Pt.U, Pt.locs, Pt.cells, Pt.slots] at X510 l510 y510 z510 st510 hQ510
  subst l510 y510 z510
  obtain ⟨rfl, NQ510, K510, fq510_0⟩ := hQ510
  have N511 := Fr.app N0 NQ510
  have f512 : Arv Z T510.heap ca kc .char (3 : Int32) [(.int cc0), (.int cc1), (.int cc2)] (.int (0 : Int32)) := f506.keep K510 (ninS ne503 nin0)
  have Kp513 : Keep h0 T510.heap [] := Kp508.trans K510 (allS (Or.inr (Nat.le_trans K00.1 (Nat.le_of_eq g502.symm))) all0)
  have Z514 := Nat.le_trans Z507 K510.1
  refine Rch.st (fun _ k => st510 _ k) ?_
  show Rch p e below T510 (mkF m 12 #[.val (.ref ca), .val (.int (0 : Int32)), .val (.int (3 : Int32)), .val (.ref a502), .unset, .unset] [(.int (3 : Int32))]) _
  refine w_istore (pc' := 14) (l' := #[.val (.ref ca), .val (.int (0 : Int32)), .val (.int (3 : Int32)), .val (.ref a502), .val (.int (3 : Int32)), .unset]) X510 hx hby djdk52m16_12 rfl rfl ?_
  refine w_iload (pc' := 16) X510 hx hby djdk52m16_14 rfl rfl ?_
  refine w_iloadN (pc' := 17) X510 hx hby djdk52m16_16 rfl rfl ?_
  refine w_icmpYes (pc' := 57) X510 hx hby djdk52m16_17 (XT.ii_eq_t (rfl)) (by decide) ?_
  refine w_aloadN (pc' := 58) X510 hx hby djdk52m16_57 rfl rfl rfl ?_
  exact Rch.retV X510 hx Bd.returns rfl (Or.inr (Or.inr (Or.inr (Or.inr ⟨rfl, rfl, rfl⟩)))) (hb hby djdk52m16_58) (by rw [(rfl : T510.heap = T510.heap)]; exact ⟨a502, kc502, rfl, N511, Kp513, (Nat.le_trans K00.1 (Nat.le_of_eq g502.symm)), fq510_0⟩) (by decide) (by decide)

theorem ef_rm_init4_3 (m : MethodId) (G1 : Int32) (a5 : Addr) (ca : Addr) (kc : ClassId) (cc0 : Int32) (cc1 : Int32) (cc2 : Int32)  : entryFrame m #[(.ref a5), (.ref ca), (.int (0 : Int32)), (.int (3 : Int32)), .null] 6 = mkF m 0 #[.val (.ref a5), .val (.ref ca), .val (.int (0 : Int32)), .val (.int (3 : Int32)), .val .null, .unset] [] := by  first | (simp [entryFrame, mkF, argsToLocals, Value.category, maxLocals]; done) | rfl
def Q_rm_init4_3 (Z : State) (G1 : Int32) (a5 : Addr) (ca : Addr) (kc : ClassId) (cc0 : Int32) (cc1 : Int32) (cc2 : Int32) (h0 : Heap) (n0 : Nat) (v : Option Value) (h : Heap) (L : List Loc) : Prop := ∃ (t : Addr) (kt : ClassId), (v = none) ∧ (Fr n0 L) ∧ (Keep h0 h [a5]) ∧ (h0.size ≤ t) ∧ (Fld Z h a5 "java/lang/String" "coder" "B" (.int (0 : Int32))) ∧ (Fld Z h a5 "java/lang/String" "value" "[B" (.ref t)) ∧ (Arv Z h t kt .byte (3 : Int32) [(.int (own_by cc0)), (.int (own_by cc1)), (.int (own_by cc2))] (.int (0 : Int32)))
set_option maxRecDepth 65536 in
set_option maxHeartbeats 40000000 in
theorem rm_init4_3 (l : Launch) (Z : State) (a0 : Array Value) (hw : ∀ d ∈ tables_1, d.before a0 Z = true) (ws : List Jvm.Cond) (G1 : Int32) (a5 : Addr) (ca : Addr) (kc : ClassId) (cc0 : Int32) (cc1 : Int32) (cc2 : Int32) (h0 : Heap) (n0 : Nat) (Z0 : n0 ≤ h0.size) (O2 : Sta Z Z.heap "java/lang/String" "COMPACT_STRINGS" "Z" (.int G1)) (P5 : ¬ G1 = 0) (f2 : Exa Z h0 a5 "java/lang/String") (f3 : Fld Z h0 a5 "java/lang/String" "coder" "B" (.int (0 : Int32))) (f4 : Fld Z h0 a5 "java/lang/String" "value" "[B" .null) (f5 : Arv Z h0 ca kc .char (3 : Int32) [(.int cc0), (.int cc1), (.int cc2)] (.int (0 : Int32))) (ga : n0 ≤ a5) (nca : a5 ≠ ca) (hg0 : ¬ (255 : Int32) < cc0) (hg1 : ¬ (255 : Int32) < cc1) (hg2 : ¬ (255 : Int32) < cc2) (Old0 : OldL Z n0 h0) :
    MetFree l (⟨"java/lang/String", "<init>", "([CIILjava/lang/Void;)V"⟩ : MethodName) (head1 (Jvm.Cond.code (⟨"java/lang/String", "<init>", "([CIILjava/lang/Void;)V"⟩ : MethodName) jdk_42_method_149_code 6 none :: ws) ({ frames := 2, cells := 1, slots := 3, locals := 35 } : Room)) (fun a U => a = #[(.ref a5), (.ref ca), (.int (0 : Int32)), (.int (3 : Int32)), .null] ∧ Z.Warmed39 U.vm ∧ U.heap = h0) (fun _ _ _ _ _ => True) (fun _ U o U' => ∃ v L, o = .returned v ∧ Q_rm_init4_3 Z G1 a5 ca kc cc0 cc1 cc2 h0 n0 v U'.heap L ∧ FrameEnd U o U' L ({ frames := 2, cells := 1, slots := 3, locals := 35 } : Room).cells ({ frames := 2, cells := 1, slots := 3, locals := 35 } : Room).slots) := by
  refine MetFree.of_bodySF (plainFor_of_name pn_java_lang_String) hisR ?_
  intro p e s m args below meth c s₁ Bd hml0 hP hK
  obtain ⟨rfl, hZ, hh⟩ := hP
  have hx := Bd.exec
  have hby := Bd.bytes
  have hml : c.maxLocals = 6 := hml0
  have hown : s.vm.findClass "java/lang/String" = some m.cls := findClass_of_methodNamed Bd.named
  have hnm := (name_of_methodNamed Bd.named Bd.method).1
  have X0 : Stand p l e ({ frames := 2, cells := 1, slots := 3, locals := 35 } : Room) s m #[(.ref a5), (.ref ca), (.int (0 : Int32)), (.int (3 : Int32)), .null] below meth c s₁ [] 0 0 := Stand.of_body Bd
  have e0 : s₁.heap = h0 := by rw [← hh, Bd.state]; rfl
  have N0 := Fr.nil n0
  have K00 : Keep h0 h0 [a5] := Keep.refl _ _
  have hlk0 : meth.locks = false := by first | assumption | exact BodyLoose.notSynchronized (by assumption) | exact Body.notSynchronized (by assumption)
  show Rch p e below s₁ (entryFrame m #[(.ref a5), (.ref ca), (.int (0 : Int32)), (.int (3 : Int32)), .null] 6) (FinP s (Q_rm_init4_3 Z G1 a5 ca kc cc0 cc1 cc2 h0 n0) 1 3)
  refine Rch.cast (ef_rm_init4_3 m G1 a5 ca kc cc0 cc1 cc2) ?_
  show Rch p e below s₁ (mkF m 0 #[.val (.ref a5), .val (.ref ca), .val (.int (0 : Int32)), .val (.int (3 : Int32)), .val .null, .unset] []) _
  refine w_aloadN (pc' := 1) X0 hx hby djdk42m149_0 rfl rfl rfl ?_
  obtain ⟨T515, X515, e515, st515⟩ := initO X0 hx hZ hown (hw _ (List.mem_of_getElem? (i := 12) rfl)) (hw _ (List.mem_of_getElem? (i := 13) rfl)) (hw _ (List.mem_of_getElem? (i := 14) rfl)) e0 (g := (mkF m 1 #[.val (.ref a5), .val (.ref ca), .val (.int (0 : Int32)), .val (.int (3 : Int32)), .val .null, .unset] [(.ref a5)])) rfl (by rw [hml]; rfl) rfl (hb hby djdk42m149_1) (by decide) (W := 0) (by show 2 * 0 + _ ≤ _; exact Nat.le_of_eq rfl) (by decide)
  refine Rch.st (fun _ k => st515 _ k) ?_
  show Rch p e below T515 (mkF m 4 #[.val (.ref a5), .val (.ref ca), .val (.int (0 : Int32)), .val (.int (3 : Int32)), .val .null, .unset] []) _
  refine w_iloadN (pc' := 5) X515 hx hby djdk42m149_4 rfl rfl ?_
  refine w_ifYes (pc' := 27) X515 hx hby djdk42m149_5 (XT.i0_ne_t (by decide)) (by decide) ?_
  obtain ⟨T516, X516, e516, st516⟩ := getS X515 hx hZ hown (host := "") (hw _ (List.mem_of_getElem? (i := 48) rfl)) Via.refl e515 (O2.ext Old0.2) (g := (mkF m 27 #[.val (.ref a5), .val (.ref ca), .val (.int (0 : Int32)), .val (.int (3 : Int32)), .val .null, .unset] [])) rfl (hb hby djdk42m149_27)
  refine Rch.st (fun _ k => st516 _ k) ?_
  show Rch p e below T516 (mkF m 30 #[.val (.ref a5), .val (.ref ca), .val (.int (0 : Int32)), .val (.int (3 : Int32)), .val .null, .unset] [(.int G1)]) _
  refine w_ifNo (pc' := 33) X516 hx hby djdk42m149_30 (XT.i0_eq_f (P5)) rfl ?_
  refine w_aloadN (pc' := 34) X516 hx hby djdk42m149_33 rfl rfl rfl ?_
  refine w_iloadN (pc' := 35) X516 hx hby djdk42m149_34 rfl rfl ?_
  refine w_iloadN (pc' := 36) X516 hx hby djdk42m149_35 rfl rfl ?_
  obtain ⟨_, _, ⟨T517, L517, k517, n517⟩, -, X517, ⟨Lc517, hQ517, l517, y517, z517⟩, st517⟩ := Jvm.LawKit.callS X516 hx (y := (⟨"java/lang/StringUTF16", "compress", "([CII)[B"⟩ : MethodName)) hown (mvT hZ (hw _ (List.mem_of_getElem? (i := 50) rfl))) (mvT hZ (hw _ (List.mem_of_getElem? (i := 51) rfl))) (mvT hZ (hw _ (List.mem_of_getElem? (i := 52) rfl))) (mvT hZ (hw _ (List.mem_of_getElem? (i := 53) rfl))) (by decide) (backOf (W := 0) (rm_cmp3_3 l Z a0 hw [] ca kc cc0 cc1 cc2 h0 n0 Z0 f5 (hg0) (hg1) (hg2)) hZ (hw _ (List.mem_of_getElem? (i := 53) rfl)) (hw _ (List.mem_of_getElem? (i := 52) rfl)) (by decide) (by decide)) (g := (mkF m 36 #[.val (.ref a5), .val (.ref ca), .val (.int (0 : Int32)), .val (.int (3 : Int32)), .val .null, .unset] [(.int (3 : Int32)), (.int (0 : Int32)), (.ref ca)])) rfl (by rw [hml]; rfl) (argsL := [(.ref ca), (.int (0 : Int32)), (.int (3 : Int32))]) (rest := []) (lenOf pd___CII__B rfl) rfl (by show 2 * 0 + _ ≤ _; exact Nat.le_of_eq rfl) (hb hby djdk42m149_36) (fun _ _ => ⟨rfl, e516, (by decide : 0 + 1 ≤ _), (by decide : 0 + 3 ≤ _)⟩)
  dsimp only [Pt.U, Pt.locs, Pt.cells, Pt.slots] at X517 l517 y517 z517 st517 hQ517
  subst l517 y517 z517
  obtain ⟨t_517, kt_517, rfl, NQ517, K517, pq517_0, fq517_0⟩ := hQ517
  have N518 := Fr.app N0 NQ517
  have ne519 : a5 ≠ t_517 := Nat.ne_of_lt (Nat.lt_of_lt_of_le f2.lt pq517_0)
  have ne520 : ca ≠ t_517 := Nat.ne_of_lt (Nat.lt_of_lt_of_le f5.lt pq517_0)
  have ge521 : n0 ≤ t_517 := Nat.le_trans Z0 pq517_0
  have f522 : Exa Z T517.heap a5 "java/lang/String" := f2.keep K517
  have f523 : Fld Z T517.heap a5 "java/lang/String" "coder" "B" (.int (0 : Int32)) := f3.keep K517 nin0
  have f524 : Fld Z T517.heap a5 "java/lang/String" "value" "[B" .null := f4.keep K517 nin0
  have f525 : Arv Z T517.heap ca kc .char (3 : Int32) [(.int cc0), (.int cc1), (.int cc2)] (.int (0 : Int32)) := f5.keep K517 nin0
  have Old526 := Old0.keep K517 all0
  have Kp527 : Keep h0 T517.heap [a5] := K00.trans K517 all0
  have Z528 := Nat.le_trans Z0 K517.1
  refine Rch.st (fun _ k => st517 _ k) ?_
  show Rch p e below T517 (mkF m 39 #[.val (.ref a5), .val (.ref ca), .val (.int (0 : Int32)), .val (.int (3 : Int32)), .val .null, .unset] [(.ref t_517)]) _
  refine w_astore (pc' := 41) (l' := #[.val (.ref a5), .val (.ref ca), .val (.int (0 : Int32)), .val (.int (3 : Int32)), .val .null, .val (.ref t_517)]) X517 hx hby djdk42m149_39 rfl rfl rfl ?_
  refine w_aloadN (pc' := 42) X517 hx hby djdk42m149_41 rfl rfl rfl ?_
  refine w_aload (pc' := 44) X517 hx hby djdk42m149_42 rfl rfl rfl ?_
  refine w_iloadN (pc' := 45) X517 hx hby djdk42m149_44 rfl rfl ?_
  obtain ⟨_, _, ⟨T529, L529, k529, n529⟩, -, X529, ⟨Lc529, hQ529, l529, y529, z529⟩, st529⟩ := Jvm.LawKit.callS X517 hx (y := (⟨"java/lang/StringUTF16", "coderFromArrayLen", "([BI)B"⟩ : MethodName)) hown (mvT hZ (hw _ (List.mem_of_getElem? (i := 57) rfl))) (mvT hZ (hw _ (List.mem_of_getElem? (i := 58) rfl))) (mvT hZ (hw _ (List.mem_of_getElem? (i := 52) rfl))) (mvT hZ (hw _ (List.mem_of_getElem? (i := 59) rfl))) (by decide) (backOf (W := 1) (rm_cfl l Z a0 hw [] t_517 kt_517 (3 : Int32) (3 : Int32) ([(.int (own_by cc0)), (.int (own_by cc1)), (.int (own_by cc2))]) (.int (0 : Int32)) T517.heap n0 Z528 fq517_0) hZ (hw _ (List.mem_of_getElem? (i := 59) rfl)) (hw _ (List.mem_of_getElem? (i := 52) rfl)) (by decide) (by decide)) (g := (mkF m 45 #[.val (.ref a5), .val (.ref ca), .val (.int (0 : Int32)), .val (.int (3 : Int32)), .val .null, .val (.ref t_517)] [(.int (3 : Int32)), (.ref t_517), (.ref a5)])) rfl (by rw [hml]; rfl) (argsL := [(.ref t_517), (.int (3 : Int32))]) (rest := [(.ref a5)]) (lenOf pd___BI_B rfl) rfl (by show 2 * 0 + _ ≤ _; exact Nat.le_of_eq rfl) (hb hby djdk42m149_45) (fun _ _ => ⟨rfl, (rfl : T517.heap = T517.heap), (by decide : 1 + 0 ≤ _), (by decide : 3 + 0 ≤ _)⟩)
  dsimp only [Pt.U, Pt.locs, Pt.cells, Pt.slots] at X529 l529 y529 z529 st529 hQ529
  subst l529 y529 z529
  obtain ⟨rfl, NQ529, K529⟩ := hQ529
  have N530 := Fr.app N518 NQ529
  refine Rch.st (fun _ k => st529 _ k) ?_
  show Rch p e below T529 (mkF m 48 #[.val (.ref a5), .val (.ref ca), .val (.int (0 : Int32)), .val (.int (3 : Int32)), .val .null, .val (.ref t_517)] [(.int ((XT.ushr ((3 : Int32) - (3 : Int32)) (31 : Int32))).toInt8.toInt32), (.ref a5)]) _
  have r531 : ((XT.ushr ((3 : Int32) - (3 : Int32)) (31 : Int32))).toInt8.toInt32 = (0 : Int32) := by decide
  rw [r531]
  show Rch p e below T529 (mkF m 48 #[.val (.ref a5), .val (.ref ca), .val (.int (0 : Int32)), .val (.int (3 : Int32)), .val .null, .val (.ref t_517)] [(.int (0 : Int32)), (.ref a5)]) _
  obtain ⟨T532, h532, X532, e532, W532, st532⟩ := putF X529 hx hZ hown (host := "") (Or.inl (hw _ (List.mem_of_getElem? (i := 22) rfl))) Via.refl K529 f523 f522 (Or.inr ⟨(hw _ (List.mem_of_getElem? (i := 18) rfl)), rfl, hnm⟩) (hw _ (List.mem_of_getElem? (i := 3) rfl)) (ty := .byte) (by decide) rfl rfl (g := (mkF m 48 #[.val (.ref a5), .val (.ref ca), .val (.int (0 : Int32)), .val (.int (3 : Int32)), .val .null, .val (.ref t_517)] [(.int (0 : Int32)), (.ref a5)])) rfl rfl (hb hby djdk42m149_48)
  have N533 := Fr.snoc X532 N530 ga
  have f534 : Exa Z h532 a5 "java/lang/String" := f522.wr W532
  have f535 : Fld Z h532 a5 "java/lang/String" "coder" "B" (.int (0 : Int32)) := f523.same W532
  have f536 : Fld Z h532 a5 "java/lang/String" "value" "[B" .null := f524.other W532 (Or.inr (slot_ne (t := (.array .byte)) (t' := .byte) (Or.inr (hw _ (List.mem_of_getElem? (i := 17) rfl))) (Or.inr (hw _ (List.mem_of_getElem? (i := 18) rfl))) (by decide) (by decide) (by decide)))
  have f537 : Arv Z h532 ca kc .char (3 : Int32) [(.int cc0), (.int cc1), (.int cc2)] (.int (0 : Int32)) := f525.other W532 (Ne.symm nca)
  have f538 : Arv Z h532 t_517 kt_517 .byte (3 : Int32) [(.int (own_by cc0)), (.int (own_by cc1)), (.int (own_by cc2))] (.int (0 : Int32)) := fq517_0.other W532 (Ne.symm ne519)
  have Old539 := Old526.wr W532 ga
  have Z540 := Nat.le_trans Z528 (Keep.of_wr W532).1
  have Kp541 : Keep h0 h532 [a5] := Kp527.wr W532 (Or.inl (List.mem_of_getElem? (i := 0) rfl))
  refine Rch.st (fun _ k => st532 _ k) ?_
  show Rch p e below T532 (mkF m 51 #[.val (.ref a5), .val (.ref ca), .val (.int (0 : Int32)), .val (.int (3 : Int32)), .val .null, .val (.ref t_517)] []) _
  refine w_aloadN (pc' := 52) X532 hx hby djdk42m149_51 rfl rfl rfl ?_
  refine w_aload (pc' := 54) X532 hx hby djdk42m149_52 rfl rfl rfl ?_
  obtain ⟨T542, h542, X542, e542, W542, st542⟩ := putF X532 hx hZ hown (host := "") (Or.inl (hw _ (List.mem_of_getElem? (i := 21) rfl))) Via.refl e532 f536 f534 (Or.inr ⟨(hw _ (List.mem_of_getElem? (i := 17) rfl)), rfl, hnm⟩) (hw _ (List.mem_of_getElem? (i := 3) rfl)) (ty := (.array .byte)) (by decide) rfl rfl (g := (mkF m 54 #[.val (.ref a5), .val (.ref ca), .val (.int (0 : Int32)), .val (.int (3 : Int32)), .val .null, .val (.ref t_517)] [(.ref t_517), (.ref a5)])) rfl rfl (hb hby djdk42m149_54)
  have N543 := Fr.snoc X542 N533 ga
  have f544 : Exa Z h542 a5 "java/lang/String" := f534.wr W542
  have f545 : Fld Z h542 a5 "java/lang/String" "coder" "B" (.int (0 : Int32)) := f535.other W542 (Or.inr (slot_ne (t := .byte) (t' := (.array .byte)) (Or.inr (hw _ (List.mem_of_getElem? (i := 18) rfl))) (Or.inr (hw _ (List.mem_of_getElem? (i := 17) rfl))) (by decide) (by decide) (by decide)))
  have f546 : Fld Z h542 a5 "java/lang/String" "value" "[B" (.ref t_517) := f536.same W542
  have f547 : Arv Z h542 ca kc .char (3 : Int32) [(.int cc0), (.int cc1), (.int cc2)] (.int (0 : Int32)) := f537.other W542 (Ne.symm nca)
  have f548 : Arv Z h542 t_517 kt_517 .byte (3 : Int32) [(.int (own_by cc0)), (.int (own_by cc1)), (.int (own_by cc2))] (.int (0 : Int32)) := f538.other W542 (Ne.symm ne519)
  have Old549 := Old539.wr W542 ga
  have Z550 := Nat.le_trans Z540 (Keep.of_wr W542).1
  have Kp551 : Keep h0 h542 [a5] := Kp541.wr W542 (Or.inl (List.mem_of_getElem? (i := 0) rfl))
  refine Rch.st (fun _ k => st542 _ k) ?_
  show Rch p e below T542 (mkF m 57 #[.val (.ref a5), .val (.ref ca), .val (.int (0 : Int32)), .val (.int (3 : Int32)), .val .null, .val (.ref t_517)] []) _
  exact Rch.ret0 X542 hx Bd.returns (hb hby djdk42m149_57) (by rw [e542]; exact ⟨t_517, kt_517, rfl, N543, Kp551, (Nat.le_trans K00.1 pq517_0), f545, f546, f548⟩) (by decide) (by decide)

theorem ef_rm_init1_3 (m : MethodId) (G1 : Int32) (a5 : Addr) (ca : Addr) (kc : ClassId) (cc0 : Int32) (cc1 : Int32) (cc2 : Int32)  : entryFrame m #[(.ref a5), (.ref ca)] 2 = mkF m 0 #[.val (.ref a5), .val (.ref ca)] [] := by  first | (simp [entryFrame, mkF, argsToLocals, Value.category, maxLocals]; done) | rfl
def Q_rm_init1_3 (Z : State) (G1 : Int32) (a5 : Addr) (ca : Addr) (kc : ClassId) (cc0 : Int32) (cc1 : Int32) (cc2 : Int32) (h0 : Heap) (n0 : Nat) (v : Option Value) (h : Heap) (L : List Loc) : Prop := ∃ (t : Addr) (kt : ClassId), (v = none) ∧ (Fr n0 L) ∧ (Keep h0 h [a5]) ∧ (h0.size ≤ t) ∧ (Fld Z h a5 "java/lang/String" "coder" "B" (.int (0 : Int32))) ∧ (Fld Z h a5 "java/lang/String" "value" "[B" (.ref t)) ∧ (Arv Z h t kt .byte (3 : Int32) [(.int (own_by cc0)), (.int (own_by cc1)), (.int (own_by cc2))] (.int (0 : Int32)))
set_option maxRecDepth 65536 in
set_option maxHeartbeats 40000000 in
theorem rm_init1_3 (l : Launch) (Z : State) (a0 : Array Value) (hw : ∀ d ∈ tables_1, d.before a0 Z = true) (ws : List Jvm.Cond) (G1 : Int32) (a5 : Addr) (ca : Addr) (kc : ClassId) (cc0 : Int32) (cc1 : Int32) (cc2 : Int32) (h0 : Heap) (n0 : Nat) (Z0 : n0 ≤ h0.size) (O2 : Sta Z Z.heap "java/lang/String" "COMPACT_STRINGS" "Z" (.int G1)) (P5 : ¬ G1 = 0) (f2 : Exa Z h0 a5 "java/lang/String") (f3 : Fld Z h0 a5 "java/lang/String" "coder" "B" (.int (0 : Int32))) (f4 : Fld Z h0 a5 "java/lang/String" "value" "[B" .null) (f5 : Arv Z h0 ca kc .char (3 : Int32) [(.int cc0), (.int cc1), (.int cc2)] (.int (0 : Int32))) (ga : n0 ≤ a5) (nca : a5 ≠ ca) (hg0 : ¬ (255 : Int32) < cc0) (hg1 : ¬ (255 : Int32) < cc1) (hg2 : ¬ (255 : Int32) < cc2) (Old0 : OldL Z n0 h0) :
    MetFree l (⟨"java/lang/String", "<init>", "([C)V"⟩ : MethodName) (head1 (Jvm.Cond.code (⟨"java/lang/String", "<init>", "([C)V"⟩ : MethodName) jdk_42_method_3_code 2 none :: ws) ({ frames := 3, cells := 1, slots := 3, locals := 52 } : Room)) (fun a U => a = #[(.ref a5), (.ref ca)] ∧ Z.Warmed39 U.vm ∧ U.heap = h0) (fun _ _ _ _ _ => True) (fun _ U o U' => ∃ v L, o = .returned v ∧ Q_rm_init1_3 Z G1 a5 ca kc cc0 cc1 cc2 h0 n0 v U'.heap L ∧ FrameEnd U o U' L ({ frames := 3, cells := 1, slots := 3, locals := 52 } : Room).cells ({ frames := 3, cells := 1, slots := 3, locals := 52 } : Room).slots) := by
  refine MetFree.of_bodySF (plainFor_of_name pn_java_lang_String) hisR ?_
  intro p e s m args below meth c s₁ Bd hml0 hP hK
  obtain ⟨rfl, hZ, hh⟩ := hP
  have hx := Bd.exec
  have hby := Bd.bytes
  have hml : c.maxLocals = 2 := hml0
  have hown : s.vm.findClass "java/lang/String" = some m.cls := findClass_of_methodNamed Bd.named
  have hnm := (name_of_methodNamed Bd.named Bd.method).1
  have X0 : Stand p l e ({ frames := 3, cells := 1, slots := 3, locals := 52 } : Room) s m #[(.ref a5), (.ref ca)] below meth c s₁ [] 0 0 := Stand.of_body Bd
  have e0 : s₁.heap = h0 := by rw [← hh, Bd.state]; rfl
  have N0 := Fr.nil n0
  have K00 : Keep h0 h0 [a5] := Keep.refl _ _
  have hlk0 : meth.locks = false := by first | assumption | exact BodyLoose.notSynchronized (by assumption) | exact Body.notSynchronized (by assumption)
  show Rch p e below s₁ (entryFrame m #[(.ref a5), (.ref ca)] 2) (FinP s (Q_rm_init1_3 Z G1 a5 ca kc cc0 cc1 cc2 h0 n0) 1 3)
  refine Rch.cast (ef_rm_init1_3 m G1 a5 ca kc cc0 cc1 cc2) ?_
  show Rch p e below s₁ (mkF m 0 #[.val (.ref a5), .val (.ref ca)] []) _
  refine w_aloadN (pc' := 1) X0 hx hby djdk42m3_0 rfl rfl rfl ?_
  refine w_aloadN (pc' := 2) X0 hx hby djdk42m3_1 rfl rfl rfl ?_
  refine w_iconst (pc' := 3) (v := 0) X0 hx hby djdk42m3_2 rfl rfl ?_
  refine w_aloadN (pc' := 4) X0 hx hby djdk42m3_3 rfl rfl rfl ?_
  refine Rch.st (fun _ k => own_alen X0 hx hZ e0 f5 rfl rfl (hb hby djdk42m3_4) k) ?_
  show Rch p e below s₁ (mkF m 5 #[.val (.ref a5), .val (.ref ca)] [(.int (3 : Int32)), (.int (0 : Int32)), (.ref ca), (.ref a5)]) _
  refine w_aconstNull (pc' := 6) X0 hx hby djdk42m3_5 rfl ?_
  obtain ⟨_, _, ⟨T552, L552, k552, n552⟩, -, X552, ⟨Lc552, hQ552, l552, y552, z552⟩, st552⟩ := X0.specialBack hx (y := (⟨"java/lang/String", "<init>", "([CIILjava/lang/Void;)V"⟩ : MethodName)) rfl hown (mvT hZ (hw _ (List.mem_of_getElem? (i := 8) rfl))) (mvT hZ (hw _ (List.mem_of_getElem? (i := 9) rfl))) (mvT hZ (hw _ (List.mem_of_getElem? (i := 11) rfl))) (by decide) (backOf (W := 0) (rm_init4_3 l Z a0 hw [] G1 a5 ca kc cc0 cc1 cc2 h0 n0 Z0 (O2) (P5) f2 f3 f4 f5 (ga) (nca) (hg0) (hg1) (hg2) Old0) hZ (hw _ (List.mem_of_getElem? (i := 11) rfl)) (hw _ (List.mem_of_getElem? (i := 4) rfl)) (by decide) (by decide)) (g := (mkF m 6 #[.val (.ref a5), .val (.ref ca)] [.null, (.int (3 : Int32)), (.int (0 : Int32)), (.ref ca), (.ref a5)])) rfl (by rw [hml]; rfl) (Steps.refl _) (a := a5) (argsL := [(.ref ca), (.int (0 : Int32)), (.int (3 : Int32)), .null]) (rest := []) (lenOf pd___CIILjava_lang_Void__V rfl) rfl (by show 2 * 0 + _ ≤ _; exact Nat.le_of_eq rfl) (hb hby djdk42m3_6) (fun _ _ => ⟨rfl, e0, (by decide : 0 + 1 ≤ _), (by decide : 0 + 3 ≤ _)⟩)
  dsimp only [Pt.U, Pt.locs, Pt.cells, Pt.slots] at X552 l552 y552 z552 st552 hQ552
  subst l552 y552 z552
  obtain ⟨t_552, kt_552, rfl, NQ552, K552, pq552_0, fq552_0, fq552_1, fq552_2⟩ := hQ552
  have N553 := Fr.app N0 NQ552
  have ne554 : a5 ≠ t_552 := Nat.ne_of_lt (Nat.lt_of_lt_of_le f2.lt pq552_0)
  have ne555 : ca ≠ t_552 := Nat.ne_of_lt (Nat.lt_of_lt_of_le f5.lt pq552_0)
  have ge556 : n0 ≤ t_552 := Nat.le_trans Z0 pq552_0
  have f557 : Exa Z T552.heap a5 "java/lang/String" := f2.keep K552
  have f558 : Arv Z T552.heap ca kc .char (3 : Int32) [(.int cc0), (.int cc1), (.int cc2)] (.int (0 : Int32)) := f5.keep K552 (ninS (Ne.symm nca) nin0)
  have Old559 := Old0.keep K552 (allS ga all0)
  have Kp560 : Keep h0 T552.heap [a5] := K00.trans K552 (allS (Or.inl (List.mem_of_getElem? (i := 0) rfl)) all0)
  have Z561 := Nat.le_trans Z0 K552.1
  refine Rch.st (fun _ k => st552.trans k) ?_
  show Rch p e below T552 (mkF m 9 #[.val (.ref a5), .val (.ref ca)] []) _
  exact Rch.ret0 X552 hx Bd.returns (hb hby djdk42m3_9) (by rw [(rfl : T552.heap = T552.heap)]; exact ⟨t_552, kt_552, rfl, N553, Kp560, (Nat.le_trans K00.1 pq552_0), fq552_0, fq552_1, fq552_2⟩) (by decide) (by decide)

theorem ef_rm_nbl_3 (m : MethodId)   : entryFrame m #[(.int (3 : Int32))] 1 = mkF m 0 #[.val (.int (3 : Int32))] [] := by  first | (simp [entryFrame, mkF, argsToLocals, Value.category, maxLocals]; done) | rfl
def Q_rm_nbl_3 (Z : State)  (h0 : Heap) (n0 : Nat) (v : Option Value) (h : Heap) (L : List Loc) : Prop := (v = some (.int (6 : Int32))) ∧ (Fr n0 L) ∧ (h = h0)
set_option maxRecDepth 65536 in
set_option maxHeartbeats 40000000 in
theorem rm_nbl_3 (l : Launch) (Z : State) (a0 : Array Value) (hw : ∀ d ∈ tables_1, d.before a0 Z = true) (ws : List Jvm.Cond)  (h0 : Heap) (n0 : Nat) (Z0 : n0 ≤ h0.size)  :
    MetFree l (⟨"java/lang/StringUTF16", "newBytesLength", "(I)I"⟩ : MethodName) (head1 (Jvm.Cond.code (⟨"java/lang/StringUTF16", "newBytesLength", "(I)I"⟩ : MethodName) jdk_52_method_3_code 1 (some .int) :: ws) ({ frames := 0, cells := 0, slots := 0, locals := 0 } : Room)) (fun a U => a = #[(.int (3 : Int32))] ∧ Z.Warmed39 U.vm ∧ U.heap = h0) (fun _ _ _ _ _ => True) (fun _ U o U' => ∃ v L, o = .returned v ∧ Q_rm_nbl_3 Z  h0 n0 v U'.heap L ∧ FrameEnd U o U' L ({ frames := 0, cells := 0, slots := 0, locals := 0 } : Room).cells ({ frames := 0, cells := 0, slots := 0, locals := 0 } : Room).slots) := by
  refine MetFree.of_bodySF (plainFor_of_name pn_java_lang_StringUTF16) hisR ?_
  intro p e s m args below meth c s₁ Bd hml0 hP hK
  obtain ⟨rfl, hZ, hh⟩ := hP
  have hx := Bd.exec
  have hby := Bd.bytes
  have hml : c.maxLocals = 1 := hml0
  have hown : s.vm.findClass "java/lang/StringUTF16" = some m.cls := findClass_of_methodNamed Bd.named
  have hnm := (name_of_methodNamed Bd.named Bd.method).1
  have X0 : Stand p l e ({ frames := 0, cells := 0, slots := 0, locals := 0 } : Room) s m #[(.int (3 : Int32))] below meth c s₁ [] 0 0 := Stand.of_body Bd
  have e0 : s₁.heap = h0 := by rw [← hh, Bd.state]; rfl
  have N0 := Fr.nil n0
  have K00 : Keep h0 h0 [] := Keep.refl _ _
  have hlk0 : meth.locks = false := by first | assumption | exact BodyLoose.notSynchronized (by assumption) | exact Body.notSynchronized (by assumption)
  show Rch p e below s₁ (entryFrame m #[(.int (3 : Int32))] 1) (FinP s (Q_rm_nbl_3 Z  h0 n0) 0 0)
  refine Rch.cast (ef_rm_nbl_3 m ) ?_
  show Rch p e below s₁ (mkF m 0 #[.val (.int (3 : Int32))] []) _
  refine w_iloadN (pc' := 1) X0 hx hby djdk52m3_0 rfl rfl ?_
  refine w_ifYes (pc' := 12) X0 hx hby djdk52m3_1 (XT.i0_ge_t (by decide)) (by decide) ?_
  refine w_iloadN (pc' := 13) X0 hx hby djdk52m3_12 rfl rfl ?_
  refine Rch.st (fun _ k => Stand.ldcI X0 hx hown (mv hZ (hw _ (List.mem_of_getElem? (i := 73) rfl))) rfl (hb hby djdk52m3_13) k) ?_
  show Rch p e below s₁ (mkF m 15 #[.val (.int (3 : Int32))] [(.int (1073741823 : Int32)), (.int (3 : Int32))]) _
  refine w_icmpYes (pc' := 55) X0 hx hby djdk52m3_15 (XT.ii_lt_t (by decide)) (by decide) ?_
  refine w_iloadN (pc' := 56) X0 hx hby djdk52m3_55 rfl rfl ?_
  refine w_iconst (pc' := 57) (v := 1) X0 hx hby djdk52m3_56 rfl rfl ?_
  refine w_ishl (pc' := 58) X0 hx hby djdk52m3_57 rfl ?_
  have r562 : ((3 : Int32) <<< ((1 : Int32) &&& 31)) = (6 : Int32) := by decide
  rw [r562]
  show Rch p e below s₁ (mkF m 58 #[.val (.int (3 : Int32))] [(.int (6 : Int32))]) _
  exact Rch.retV X0 hx Bd.returns rfl (Or.inl ⟨rfl, by simp, _, rfl⟩) (hb hby djdk52m3_58) (by rw [e0]; exact ⟨rfl, N0, rfl⟩) (by decide) (by decide)

theorem ef_rm_nbf_3 (m : MethodId)   : entryFrame m #[(.int (3 : Int32))] 1 = mkF m 0 #[.val (.int (3 : Int32))] [] := by  first | (simp [entryFrame, mkF, argsToLocals, Value.category, maxLocals]; done) | rfl
def Q_rm_nbf_3 (Z : State)  (h0 : Heap) (n0 : Nat) (v : Option Value) (h : Heap) (L : List Loc) : Prop := ∃ (t : Addr) (kt : ClassId), (v = some (.ref t)) ∧ (Fr n0 L) ∧ (Keep h0 h []) ∧ (h0.size ≤ t) ∧ (Arv Z h t kt .byte (6 : Int32) [(.int (0 : Int32)), (.int (0 : Int32)), (.int (0 : Int32)), (.int (0 : Int32)), (.int (0 : Int32)), (.int (0 : Int32))] (.int (0 : Int32)))
set_option maxRecDepth 65536 in
set_option maxHeartbeats 40000000 in
theorem rm_nbf_3 (l : Launch) (Z : State) (a0 : Array Value) (hw : ∀ d ∈ tables_1, d.before a0 Z = true) (ws : List Jvm.Cond)  (h0 : Heap) (n0 : Nat) (Z0 : n0 ≤ h0.size)  :
    MetFree l (⟨"java/lang/StringUTF16", "newBytesFor", "(I)[B"⟩ : MethodName) (head1 (Jvm.Cond.code (⟨"java/lang/StringUTF16", "newBytesFor", "(I)[B"⟩ : MethodName) jdk_52_method_2_code 1 (some (.array .byte)) :: ws) ({ frames := 1, cells := 1, slots := 6, locals := 12 } : Room)) (fun a U => a = #[(.int (3 : Int32))] ∧ Z.Warmed39 U.vm ∧ U.heap = h0) (fun _ _ _ _ _ => True) (fun _ U o U' => ∃ v L, o = .returned v ∧ Q_rm_nbf_3 Z  h0 n0 v U'.heap L ∧ FrameEnd U o U' L ({ frames := 1, cells := 1, slots := 6, locals := 12 } : Room).cells ({ frames := 1, cells := 1, slots := 6, locals := 12 } : Room).slots) := by
  refine MetFree.of_bodySF (plainFor_of_name pn_java_lang_StringUTF16) hisR ?_
  intro p e s m args below meth c s₁ Bd hml0 hP hK
  obtain ⟨rfl, hZ, hh⟩ := hP
  have hx := Bd.exec
  have hby := Bd.bytes
  have hml : c.maxLocals = 1 := hml0
  have hown : s.vm.findClass "java/lang/StringUTF16" = some m.cls := findClass_of_methodNamed Bd.named
  have hnm := (name_of_methodNamed Bd.named Bd.method).1
  have X0 : Stand p l e ({ frames := 1, cells := 1, slots := 6, locals := 12 } : Room) s m #[(.int (3 : Int32))] below meth c s₁ [] 0 0 := Stand.of_body Bd
  have e0 : s₁.heap = h0 := by rw [← hh, Bd.state]; rfl
  have N0 := Fr.nil n0
  have K00 : Keep h0 h0 [] := Keep.refl _ _
  have hlk0 : meth.locks = false := by first | assumption | exact BodyLoose.notSynchronized (by assumption) | exact Body.notSynchronized (by assumption)
  show Rch p e below s₁ (entryFrame m #[(.int (3 : Int32))] 1) (FinP s (Q_rm_nbf_3 Z  h0 n0) 1 6)
  refine Rch.cast (ef_rm_nbf_3 m ) ?_
  show Rch p e below s₁ (mkF m 0 #[.val (.int (3 : Int32))] []) _
  refine w_iloadN (pc' := 1) X0 hx hby djdk52m2_0 rfl rfl ?_
  obtain ⟨_, _, ⟨T563, L563, k563, n563⟩, -, X563, ⟨Lc563, hQ563, l563, y563, z563⟩, st563⟩ := Jvm.LawKit.callS X0 hx (y := (⟨"java/lang/StringUTF16", "newBytesLength", "(I)I"⟩ : MethodName)) hown (mvT hZ (hw _ (List.mem_of_getElem? (i := 70) rfl))) (mvT hZ (hw _ (List.mem_of_getElem? (i := 71) rfl))) (mvT hZ (hw _ (List.mem_of_getElem? (i := 52) rfl))) (mvT hZ (hw _ (List.mem_of_getElem? (i := 72) rfl))) (by decide) (backOf (W := 0) (rm_nbl_3 l Z a0 hw []  h0 n0 Z0 ) hZ (hw _ (List.mem_of_getElem? (i := 72) rfl)) (hw _ (List.mem_of_getElem? (i := 52) rfl)) (by decide) (by decide)) (g := (mkF m 1 #[.val (.int (3 : Int32))] [(.int (3 : Int32))])) rfl (by rw [hml]; rfl) (argsL := [(.int (3 : Int32))]) (rest := []) (lenOf pd__I_I rfl) rfl (by show 2 * 0 + _ ≤ _; exact Nat.le_of_eq rfl) (hb hby djdk52m2_1) (fun _ _ => ⟨rfl, e0, (by decide : 0 + 0 ≤ _), (by decide : 0 + 0 ≤ _)⟩)
  dsimp only [Pt.U, Pt.locs, Pt.cells, Pt.slots] at X563 l563 y563 z563 st563 hQ563
  subst l563 y563 z563
  obtain ⟨rfl, NQ563, K563⟩ := hQ563
  have N564 := Fr.app N0 NQ563
  refine Rch.st (fun _ k => st563 _ k) ?_
  show Rch p e below T563 (mkF m 4 #[.val (.int (3 : Int32))] [(.int (6 : Int32))]) _
  obtain ⟨T565, h565, kc565, X565, e565, E565, A565, st565⟩ := newP X563 hx hZ (hw _ (List.mem_of_getElem? (i := 16) rfl)) K563 (g := (mkF m 4 #[.val (.int (3 : Int32))] [(.int (6 : Int32))])) rfl (hb hby djdk52m2_4) rfl (by decide : ¬ ((6 : Int32) < (0 : Int32))) (cap := 6) (by decide : (6 : Int32).toNatClampNeg ≤ 6) (by decide) (by decide) (by decide)
  obtain ⟨a565, g565⟩ : ∃ z, z = h0.size := ⟨_, rfl⟩
  rw [← g565] at A565 st565
  have ge566 : n0 ≤ a565 := Nat.le_trans Z0 (Nat.le_of_eq g565.symm)
  have Z568 := Nat.le_trans Z0 E565.1
  have Kp569 : Keep h0 h565 [] := K00.ext E565
  have f570 : Arv Z h565 a565 kc565 .byte (6 : Int32) [(.int (0 : Int32)), (.int (0 : Int32)), (.int (0 : Int32)), (.int (0 : Int32)), (.int (0 : Int32)), (.int (0 : Int32))] (.int (0 : Int32)) := (Arv.new A565 (by decide : ¬ ((6 : Int32) < (0 : Int32)))).pad (pad_rep [] (.int (0 : Int32)) 6)
  refine Rch.st (fun _ k => st565 _ k) ?_
  show Rch p e below T565 (mkF m 6 #[.val (.int (3 : Int32))] [(.ref a565)]) _
  exact Rch.retV X565 hx Bd.returns rfl (Or.inr (Or.inr (Or.inr (Or.inr ⟨rfl, rfl, rfl⟩)))) (hb hby djdk52m2_6) (by rw [e565]; exact ⟨a565, kc565, rfl, N564, Kp569, (Nat.le_trans K00.1 (Nat.le_of_eq g565.symm)), f570⟩) (by decide) (by decide)

theorem ef_rm_tob_3 (m : MethodId) (ca : Addr) (kc : ClassId) (cc0 : Int32) (cc1 : Int32) (cc2 : Int32)  : entryFrame m #[(.ref ca), (.int (0 : Int32)), (.int (3 : Int32))] 5 = mkF m 0 #[.val (.ref ca), .val (.int (0 : Int32)), .val (.int (3 : Int32)), .unset, .unset] [] := by  first | (simp [entryFrame, mkF, argsToLocals, Value.category, maxLocals]; done) | rfl
def Q_rm_tob_3 (Z : State) (ca : Addr) (kc : ClassId) (cc0 : Int32) (cc1 : Int32) (cc2 : Int32) (h0 : Heap) (n0 : Nat) (v : Option Value) (h : Heap) (L : List Loc) : Prop := ∃ (t : Addr) (kt : ClassId), (v = some (.ref t)) ∧ (Fr n0 L) ∧ (Keep h0 h []) ∧ (h0.size ≤ t) ∧ (Arv Z h t kt .byte (6 : Int32) [(.int (own_lo cc0)), (.int (own_hi cc0)), (.int (own_lo cc1)), (.int (own_hi cc1)), (.int (own_lo cc2)), (.int (own_hi cc2))] (.int (0 : Int32)))
set_option maxRecDepth 65536 in
set_option maxHeartbeats 40000000 in
theorem rm_tob_3 (l : Launch) (Z : State) (a0 : Array Value) (hw : ∀ d ∈ tables_1, d.before a0 Z = true) (ws : List Jvm.Cond) (ca : Addr) (kc : ClassId) (cc0 : Int32) (cc1 : Int32) (cc2 : Int32) (h0 : Heap) (n0 : Nat) (Z0 : n0 ≤ h0.size) (SA : Sta Z Z.heap "java/lang/StringUTF16" "$assertionsDisabled" "Z" (.int 1)) (SH : Sta Z Z.heap "java/lang/StringUTF16" "HI_BYTE_SHIFT" "I" (.int 0)) (SL : Sta Z Z.heap "java/lang/StringUTF16" "LO_BYTE_SHIFT" "I" (.int 8)) (f3 : Arv Z h0 ca kc .char (3 : Int32) [(.int cc0), (.int cc1), (.int cc2)] (.int (0 : Int32))) (Old0 : OldL Z n0 h0) :
    MetFree l (⟨"java/lang/StringUTF16", "toBytes", "([CII)[B"⟩ : MethodName) (head1 (Jvm.Cond.code (⟨"java/lang/StringUTF16", "toBytes", "([CII)[B"⟩ : MethodName) jdk_52_method_14_code 5 (some (.array .byte)) :: ws) ({ frames := 2, cells := 1, slots := 6, locals := 24 } : Room)) (fun a U => a = #[(.ref ca), (.int (0 : Int32)), (.int (3 : Int32))] ∧ Z.Warmed39 U.vm ∧ U.heap = h0) (fun _ _ _ _ _ => True) (fun _ U o U' => ∃ v L, o = .returned v ∧ Q_rm_tob_3 Z ca kc cc0 cc1 cc2 h0 n0 v U'.heap L ∧ FrameEnd U o U' L ({ frames := 2, cells := 1, slots := 6, locals := 24 } : Room).cells ({ frames := 2, cells := 1, slots := 6, locals := 24 } : Room).slots) := by
  refine MetFree.of_bodySF (plainFor_of_name pn_java_lang_StringUTF16) hisR ?_
  intro p e s m args below meth c s₁ Bd hml0 hP hK
  obtain ⟨rfl, hZ, hh⟩ := hP
  have hx := Bd.exec
  have hby := Bd.bytes
  have hml : c.maxLocals = 5 := hml0
  have hown : s.vm.findClass "java/lang/StringUTF16" = some m.cls := findClass_of_methodNamed Bd.named
  have hnm := (name_of_methodNamed Bd.named Bd.method).1
  have X0 : Stand p l e ({ frames := 2, cells := 1, slots := 6, locals := 24 } : Room) s m #[(.ref ca), (.int (0 : Int32)), (.int (3 : Int32))] below meth c s₁ [] 0 0 := Stand.of_body Bd
  have e0 : s₁.heap = h0 := by rw [← hh, Bd.state]; rfl
  have N0 := Fr.nil n0
  have K00 : Keep h0 h0 [] := Keep.refl _ _
  have hlk0 : meth.locks = false := by first | assumption | exact BodyLoose.notSynchronized (by assumption) | exact Body.notSynchronized (by assumption)
  show Rch p e below s₁ (entryFrame m #[(.ref ca), (.int (0 : Int32)), (.int (3 : Int32))] 5) (FinP s (Q_rm_tob_3 Z ca kc cc0 cc1 cc2 h0 n0) 1 6)
  refine Rch.cast (ef_rm_tob_3 m ca kc cc0 cc1 cc2) ?_
  show Rch p e below s₁ (mkF m 0 #[.val (.ref ca), .val (.int (0 : Int32)), .val (.int (3 : Int32)), .unset, .unset] []) _
  refine w_iloadN (pc' := 1) X0 hx hby djdk52m14_0 rfl rfl ?_
  obtain ⟨_, _, ⟨T571, L571, k571, n571⟩, -, X571, ⟨Lc571, hQ571, l571, y571, z571⟩, st571⟩ := Jvm.LawKit.callS X0 hx (y := (⟨"java/lang/StringUTF16", "newBytesFor", "(I)[B"⟩ : MethodName)) hown (mvT hZ (hw _ (List.mem_of_getElem? (i := 67) rfl))) (mvT hZ (hw _ (List.mem_of_getElem? (i := 68) rfl))) (mvT hZ (hw _ (List.mem_of_getElem? (i := 52) rfl))) (mvT hZ (hw _ (List.mem_of_getElem? (i := 69) rfl))) (by decide) (backOf (W := 0) (rm_nbf_3 l Z a0 hw []  h0 n0 Z0 ) hZ (hw _ (List.mem_of_getElem? (i := 69) rfl)) (hw _ (List.mem_of_getElem? (i := 52) rfl)) (by decide) (by decide)) (g := (mkF m 1 #[.val (.ref ca), .val (.int (0 : Int32)), .val (.int (3 : Int32)), .unset, .unset] [(.int (3 : Int32))])) rfl (by rw [hml]; rfl) (argsL := [(.int (3 : Int32))]) (rest := []) (lenOf pd__I__B rfl) rfl (by show 2 * 0 + _ ≤ _; exact Nat.le_of_eq rfl) (hb hby djdk52m14_1) (fun _ _ => ⟨rfl, e0, (by decide : 0 + 1 ≤ _), (by decide : 0 + 6 ≤ _)⟩)
  dsimp only [Pt.U, Pt.locs, Pt.cells, Pt.slots] at X571 l571 y571 z571 st571 hQ571
  subst l571 y571 z571
  obtain ⟨t_571, kt_571, rfl, NQ571, K571, pq571_0, fq571_0⟩ := hQ571
  have N572 := Fr.app N0 NQ571
  have ne573 : ca ≠ t_571 := Nat.ne_of_lt (Nat.lt_of_lt_of_le f3.lt pq571_0)
  have ge574 : n0 ≤ t_571 := Nat.le_trans Z0 pq571_0
  have f575 : Arv Z T571.heap ca kc .char (3 : Int32) [(.int cc0), (.int cc1), (.int cc2)] (.int (0 : Int32)) := f3.keep K571 nin0
  have Old576 := Old0.keep K571 all0
  have Kp577 : Keep h0 T571.heap [] := K00.trans K571 all0
  have Z578 := Nat.le_trans Z0 K571.1
  refine Rch.st (fun _ k => st571 _ k) ?_
  show Rch p e below T571 (mkF m 4 #[.val (.ref ca), .val (.int (0 : Int32)), .val (.int (3 : Int32)), .unset, .unset] [(.ref t_571)]) _
  refine w_astoreN (pc' := 5) (l' := #[.val (.ref ca), .val (.int (0 : Int32)), .val (.int (3 : Int32)), .val (.ref t_571), .unset]) X571 hx hby djdk52m14_4 rfl rfl rfl ?_
  refine w_iconst (pc' := 6) (v := 0) X571 hx hby djdk52m14_5 rfl rfl ?_
  refine w_istore (pc' := 8) (l' := #[.val (.ref ca), .val (.int (0 : Int32)), .val (.int (3 : Int32)), .val (.ref t_571), .val (.int (0 : Int32))]) X571 hx hby djdk52m14_6 rfl rfl ?_
  refine w_iload (pc' := 10) X571 hx hby djdk52m14_8 rfl rfl ?_
  refine w_iloadN (pc' := 11) X571 hx hby djdk52m14_10 rfl rfl ?_
  refine w_icmpNo (pc' := 14) X571 hx hby djdk52m14_11 (XT.ii_ge_f (by decide)) rfl ?_
  refine w_aloadN (pc' := 15) X571 hx hby djdk52m14_14 rfl rfl rfl ?_
  refine w_iload (pc' := 17) X571 hx hby djdk52m14_15 rfl rfl ?_
  refine w_aloadN (pc' := 18) X571 hx hby djdk52m14_17 rfl rfl rfl ?_
  refine w_iloadN (pc' := 19) X571 hx hby djdk52m14_18 rfl rfl ?_
  refine Rch.st (fun _ k => own_ldC X571 hx hZ (rfl : T571.heap = T571.heap) f575 (j := (0 : Int32)) ⟨by decide, by decide⟩ (by rfl) rfl rfl (hb hby djdk52m14_19) k) ?_
  show Rch p e below T571 (mkF m 20 #[.val (.ref ca), .val (.int (0 : Int32)), .val (.int (3 : Int32)), .val (.ref t_571), .val (.int (0 : Int32))] [(.int cc0), (.int (0 : Int32)), (.ref t_571)]) _
  obtain ⟨_, _, ⟨T579, L579, k579, n579⟩, -, X579, ⟨Lc579, hQ579, l579, y579, z579⟩, st579⟩ := Jvm.LawKit.callS X571 hx (y := (⟨"java/lang/StringUTF16", "putChar", "([BII)V"⟩ : MethodName)) hown (mvT hZ (hw _ (List.mem_of_getElem? (i := 74) rfl))) (mvT hZ (hw _ (List.mem_of_getElem? (i := 75) rfl))) (mvT hZ (hw _ (List.mem_of_getElem? (i := 52) rfl))) (mvT hZ (hw _ (List.mem_of_getElem? (i := 76) rfl))) (by decide) (backOf (W := 0) (rm_put_0 l Z a0 hw [] t_571 kt_571 (6 : Int32) ([(.int (0 : Int32)), (.int (0 : Int32)), (.int (0 : Int32)), (.int (0 : Int32)), (.int (0 : Int32)), (.int (0 : Int32))]) (.int (0 : Int32)) cc0 T571.heap n0 Z578 (SA) (SH) (SL) fq571_0 (ge574) (by decide) (by decide) (by decide : 1 < 6) Old576) hZ (hw _ (List.mem_of_getElem? (i := 76) rfl)) (hw _ (List.mem_of_getElem? (i := 52) rfl)) (by decide) (by decide)) (g := (mkF m 20 #[.val (.ref ca), .val (.int (0 : Int32)), .val (.int (3 : Int32)), .val (.ref t_571), .val (.int (0 : Int32))] [(.int cc0), (.int (0 : Int32)), (.ref t_571)])) rfl (by rw [hml]; rfl) (argsL := [(.ref t_571), (.int (0 : Int32)), (.int cc0)]) (rest := []) (lenOf pd___BII_V rfl) rfl (by show 2 * 0 + _ ≤ _; exact Nat.le_of_eq rfl) (hb hby djdk52m14_20) (fun _ _ => ⟨rfl, (rfl : T571.heap = T571.heap), (by decide : 1 + 0 ≤ _), (by decide : 6 + 0 ≤ _)⟩)
  dsimp only [Pt.U, Pt.locs, Pt.cells, Pt.slots] at X579 l579 y579 z579 st579 hQ579
  subst l579 y579 z579
  obtain ⟨rfl, NQ579, K579, fq579_0⟩ := hQ579
  have N580 := Fr.app N572 NQ579
  have f581 : Arv Z T579.heap ca kc .char (3 : Int32) [(.int cc0), (.int cc1), (.int cc2)] (.int (0 : Int32)) := f575.keep K579 (ninS ne573 nin0)
  have Old582 := Old576.keep K579 (allS ge574 all0)
  have Kp583 : Keep h0 T579.heap [] := Kp577.trans K579 (allS (Or.inr (Nat.le_trans K00.1 pq571_0)) all0)
  have Z584 := Nat.le_trans Z578 K579.1
  refine Rch.st (fun _ k => st579 _ k) ?_
  show Rch p e below T579 (mkF m 23 #[.val (.ref ca), .val (.int (0 : Int32)), .val (.int (3 : Int32)), .val (.ref t_571), .val (.int (0 : Int32))] []) _
  have f585 : Arv Z T579.heap t_571 kt_571 .byte (6 : Int32) [(.int (own_lo cc0)), (.int (own_hi cc0)), (.int (0 : Int32)), (.int (0 : Int32)), (.int (0 : Int32)), (.int (0 : Int32))] (.int (0 : Int32)) := fq579_0
  refine w_iinc (pc' := 26) (w := (1 : Int32)) (l' := #[.val (.ref ca), .val (.int (1 : Int32)), .val (.int (3 : Int32)), .val (.ref t_571), .val (.int (0 : Int32))]) X579 hx hby djdk52m14_23 rfl (by decide) rfl rfl ?_
  refine w_iinc (pc' := 29) (w := (1 : Int32)) (l' := #[.val (.ref ca), .val (.int (1 : Int32)), .val (.int (3 : Int32)), .val (.ref t_571), .val (.int (1 : Int32))]) X579 hx hby djdk52m14_26 rfl (by decide) rfl rfl ?_
  refine w_goto (pc' := 8) X579 hx hby djdk52m14_29 (by decide) ?_
  refine w_iload (pc' := 10) X579 hx hby djdk52m14_8 rfl rfl ?_
  refine w_iloadN (pc' := 11) X579 hx hby djdk52m14_10 rfl rfl ?_
  refine w_icmpNo (pc' := 14) X579 hx hby djdk52m14_11 (XT.ii_ge_f (by decide)) rfl ?_
  refine w_aloadN (pc' := 15) X579 hx hby djdk52m14_14 rfl rfl rfl ?_
  refine w_iload (pc' := 17) X579 hx hby djdk52m14_15 rfl rfl ?_
  refine w_aloadN (pc' := 18) X579 hx hby djdk52m14_17 rfl rfl rfl ?_
  refine w_iloadN (pc' := 19) X579 hx hby djdk52m14_18 rfl rfl ?_
  refine Rch.st (fun _ k => own_ldC X579 hx hZ (rfl : T579.heap = T579.heap) f581 (j := (1 : Int32)) ⟨by decide, by decide⟩ (by rfl) rfl rfl (hb hby djdk52m14_19) k) ?_
  show Rch p e below T579 (mkF m 20 #[.val (.ref ca), .val (.int (1 : Int32)), .val (.int (3 : Int32)), .val (.ref t_571), .val (.int (1 : Int32))] [(.int cc1), (.int (1 : Int32)), (.ref t_571)]) _
  obtain ⟨_, _, ⟨T586, L586, k586, n586⟩, -, X586, ⟨Lc586, hQ586, l586, y586, z586⟩, st586⟩ := Jvm.LawKit.callS X579 hx (y := (⟨"java/lang/StringUTF16", "putChar", "([BII)V"⟩ : MethodName)) hown (mvT hZ (hw _ (List.mem_of_getElem? (i := 74) rfl))) (mvT hZ (hw _ (List.mem_of_getElem? (i := 75) rfl))) (mvT hZ (hw _ (List.mem_of_getElem? (i := 52) rfl))) (mvT hZ (hw _ (List.mem_of_getElem? (i := 76) rfl))) (by decide) (backOf (W := 0) (rm_put_1 l Z a0 hw [] t_571 kt_571 (6 : Int32) ([(.int (own_lo cc0)), (.int (own_hi cc0)), (.int (0 : Int32)), (.int (0 : Int32)), (.int (0 : Int32)), (.int (0 : Int32))]) (.int (0 : Int32)) cc1 T579.heap n0 Z584 (SA) (SH) (SL) f585 (ge574) (by decide) (by decide) (by decide : 3 < 6) Old582) hZ (hw _ (List.mem_of_getElem? (i := 76) rfl)) (hw _ (List.mem_of_getElem? (i := 52) rfl)) (by decide) (by decide)) (g := (mkF m 20 #[.val (.ref ca), .val (.int (1 : Int32)), .val (.int (3 : Int32)), .val (.ref t_571), .val (.int (1 : Int32))] [(.int cc1), (.int (1 : Int32)), (.ref t_571)])) rfl (by rw [hml]; rfl) (argsL := [(.ref t_571), (.int (1 : Int32)), (.int cc1)]) (rest := []) (lenOf pd___BII_V rfl) rfl (by show 2 * 0 + _ ≤ _; exact Nat.le_of_eq rfl) (hb hby djdk52m14_20) (fun _ _ => ⟨rfl, (rfl : T579.heap = T579.heap), (by decide : 1 + 0 ≤ _), (by decide : 6 + 0 ≤ _)⟩)
  dsimp only [Pt.U, Pt.locs, Pt.cells, Pt.slots] at X586 l586 y586 z586 st586 hQ586
  subst l586 y586 z586
  obtain ⟨rfl, NQ586, K586, fq586_0⟩ := hQ586
  have N587 := Fr.app N580 NQ586
  have f588 : Arv Z T586.heap ca kc .char (3 : Int32) [(.int cc0), (.int cc1), (.int cc2)] (.int (0 : Int32)) := f581.keep K586 (ninS ne573 nin0)
  have Old589 := Old582.keep K586 (allS ge574 all0)
  have Kp590 : Keep h0 T586.heap [] := Kp583.trans K586 (allS (Or.inr (Nat.le_trans K00.1 pq571_0)) all0)
  have Z591 := Nat.le_trans Z584 K586.1
  refine Rch.st (fun _ k => st586 _ k) ?_
  show Rch p e below T586 (mkF m 23 #[.val (.ref ca), .val (.int (1 : Int32)), .val (.int (3 : Int32)), .val (.ref t_571), .val (.int (1 : Int32))] []) _
  have f592 : Arv Z T586.heap t_571 kt_571 .byte (6 : Int32) [(.int (own_lo cc0)), (.int (own_hi cc0)), (.int (own_lo cc1)), (.int (own_hi cc1)), (.int (0 : Int32)), (.int (0 : Int32))] (.int (0 : Int32)) := fq586_0
  refine w_iinc (pc' := 26) (w := (2 : Int32)) (l' := #[.val (.ref ca), .val (.int (2 : Int32)), .val (.int (3 : Int32)), .val (.ref t_571), .val (.int (1 : Int32))]) X586 hx hby djdk52m14_23 rfl (by decide) rfl rfl ?_
  refine w_iinc (pc' := 29) (w := (2 : Int32)) (l' := #[.val (.ref ca), .val (.int (2 : Int32)), .val (.int (3 : Int32)), .val (.ref t_571), .val (.int (2 : Int32))]) X586 hx hby djdk52m14_26 rfl (by decide) rfl rfl ?_
  refine w_goto (pc' := 8) X586 hx hby djdk52m14_29 (by decide) ?_
  refine w_iload (pc' := 10) X586 hx hby djdk52m14_8 rfl rfl ?_
  refine w_iloadN (pc' := 11) X586 hx hby djdk52m14_10 rfl rfl ?_
  refine w_icmpNo (pc' := 14) X586 hx hby djdk52m14_11 (XT.ii_ge_f (by decide)) rfl ?_
  refine w_aloadN (pc' := 15) X586 hx hby djdk52m14_14 rfl rfl rfl ?_
  refine w_iload (pc' := 17) X586 hx hby djdk52m14_15 rfl rfl ?_
  refine w_aloadN (pc' := 18) X586 hx hby djdk52m14_17 rfl rfl rfl ?_
  refine w_iloadN (pc' := 19) X586 hx hby djdk52m14_18 rfl rfl ?_
  refine Rch.st (fun _ k => own_ldC X586 hx hZ (rfl : T586.heap = T586.heap) f588 (j := (2 : Int32)) ⟨by decide, by decide⟩ (by rfl) rfl rfl (hb hby djdk52m14_19) k) ?_
  show Rch p e below T586 (mkF m 20 #[.val (.ref ca), .val (.int (2 : Int32)), .val (.int (3 : Int32)), .val (.ref t_571), .val (.int (2 : Int32))] [(.int cc2), (.int (2 : Int32)), (.ref t_571)]) _
  obtain ⟨_, _, ⟨T593, L593, k593, n593⟩, -, X593, ⟨Lc593, hQ593, l593, y593, z593⟩, st593⟩ := Jvm.LawKit.callS X586 hx (y := (⟨"java/lang/StringUTF16", "putChar", "([BII)V"⟩ : MethodName)) hown (mvT hZ (hw _ (List.mem_of_getElem? (i := 74) rfl))) (mvT hZ (hw _ (List.mem_of_getElem? (i := 75) rfl))) (mvT hZ (hw _ (List.mem_of_getElem? (i := 52) rfl))) (mvT hZ (hw _ (List.mem_of_getElem? (i := 76) rfl))) (by decide) (backOf (W := 0) (rm_put_2 l Z a0 hw [] t_571 kt_571 (6 : Int32) ([(.int (own_lo cc0)), (.int (own_hi cc0)), (.int (own_lo cc1)), (.int (own_hi cc1)), (.int (0 : Int32)), (.int (0 : Int32))]) (.int (0 : Int32)) cc2 T586.heap n0 Z591 (SA) (SH) (SL) f592 (ge574) (by decide) (by decide) (by decide : 5 < 6) Old589) hZ (hw _ (List.mem_of_getElem? (i := 76) rfl)) (hw _ (List.mem_of_getElem? (i := 52) rfl)) (by decide) (by decide)) (g := (mkF m 20 #[.val (.ref ca), .val (.int (2 : Int32)), .val (.int (3 : Int32)), .val (.ref t_571), .val (.int (2 : Int32))] [(.int cc2), (.int (2 : Int32)), (.ref t_571)])) rfl (by rw [hml]; rfl) (argsL := [(.ref t_571), (.int (2 : Int32)), (.int cc2)]) (rest := []) (lenOf pd___BII_V rfl) rfl (by show 2 * 0 + _ ≤ _; exact Nat.le_of_eq rfl) (hb hby djdk52m14_20) (fun _ _ => ⟨rfl, (rfl : T586.heap = T586.heap), (by decide : 1 + 0 ≤ _), (by decide : 6 + 0 ≤ _)⟩)
  dsimp only [Pt.U, Pt.locs, Pt.cells, Pt.slots] at X593 l593 y593 z593 st593 hQ593
  subst l593 y593 z593
  obtain ⟨rfl, NQ593, K593, fq593_0⟩ := hQ593
  have N594 := Fr.app N587 NQ593
  have f595 : Arv Z T593.heap ca kc .char (3 : Int32) [(.int cc0), (.int cc1), (.int cc2)] (.int (0 : Int32)) := f588.keep K593 (ninS ne573 nin0)
  have Old596 := Old589.keep K593 (allS ge574 all0)
  have Kp597 : Keep h0 T593.heap [] := Kp590.trans K593 (allS (Or.inr (Nat.le_trans K00.1 pq571_0)) all0)
  have Z598 := Nat.le_trans Z591 K593.1
  refine Rch.st (fun _ k => st593 _ k) ?_
  show Rch p e below T593 (mkF m 23 #[.val (.ref ca), .val (.int (2 : Int32)), .val (.int (3 : Int32)), .val (.ref t_571), .val (.int (2 : Int32))] []) _
  have f599 : Arv Z T593.heap t_571 kt_571 .byte (6 : Int32) [(.int (own_lo cc0)), (.int (own_hi cc0)), (.int (own_lo cc1)), (.int (own_hi cc1)), (.int (own_lo cc2)), (.int (own_hi cc2))] (.int (0 : Int32)) := fq593_0
  refine w_iinc (pc' := 26) (w := (3 : Int32)) (l' := #[.val (.ref ca), .val (.int (3 : Int32)), .val (.int (3 : Int32)), .val (.ref t_571), .val (.int (2 : Int32))]) X593 hx hby djdk52m14_23 rfl (by decide) rfl rfl ?_
  refine w_iinc (pc' := 29) (w := (3 : Int32)) (l' := #[.val (.ref ca), .val (.int (3 : Int32)), .val (.int (3 : Int32)), .val (.ref t_571), .val (.int (3 : Int32))]) X593 hx hby djdk52m14_26 rfl (by decide) rfl rfl ?_
  refine w_goto (pc' := 8) X593 hx hby djdk52m14_29 (by decide) ?_
  refine w_iload (pc' := 10) X593 hx hby djdk52m14_8 rfl rfl ?_
  refine w_iloadN (pc' := 11) X593 hx hby djdk52m14_10 rfl rfl ?_
  refine w_icmpYes (pc' := 32) X593 hx hby djdk52m14_11 (XT.ii_ge_t (by decide)) (by decide) ?_
  refine w_aloadN (pc' := 33) X593 hx hby djdk52m14_32 rfl rfl rfl ?_
  exact Rch.retV X593 hx Bd.returns rfl (Or.inr (Or.inr (Or.inr (Or.inr ⟨rfl, rfl, rfl⟩)))) (hb hby djdk52m14_33) (by rw [(rfl : T593.heap = T593.heap)]; exact ⟨t_571, kt_571, rfl, N594, Kp597, (Nat.le_trans K00.1 pq571_0), f599⟩) (by decide) (by decide)

theorem ef_rm_cmp5_3_0 (m : MethodId) (ca : Addr) (kc : ClassId) (bd : Addr) (kd : ClassId) (cc0 : Int32) (cc1 : Int32) (cc2 : Int32)  : entryFrame m #[(.ref ca), (.int (0 : Int32)), (.ref bd), (.int (0 : Int32)), (.int (3 : Int32))] 7 = mkF m 0 #[.val (.ref ca), .val (.int (0 : Int32)), .val (.ref bd), .val (.int (0 : Int32)), .val (.int (3 : Int32)), .unset, .unset] [] := by  first | (simp [entryFrame, mkF, argsToLocals, Value.category, maxLocals]; done) | rfl
def Q_rm_cmp5_3_0 (Z : State) (ca : Addr) (kc : ClassId) (bd : Addr) (kd : ClassId) (cc0 : Int32) (cc1 : Int32) (cc2 : Int32) (h0 : Heap) (n0 : Nat) (v : Option Value) (h : Heap) (L : List Loc) : Prop := (v = some (.int (0 : Int32))) ∧ (Fr n0 L) ∧ (Keep h0 h [bd])
set_option maxRecDepth 65536 in
set_option maxHeartbeats 40000000 in
theorem rm_cmp5_3_0 (l : Launch) (Z : State) (a0 : Array Value) (hw : ∀ d ∈ tables_1, d.before a0 Z = true) (ws : List Jvm.Cond) (ca : Addr) (kc : ClassId) (bd : Addr) (kd : ClassId) (cc0 : Int32) (cc1 : Int32) (cc2 : Int32) (h0 : Heap) (n0 : Nat) (Z0 : n0 ≤ h0.size) (f0 : Arv Z h0 ca kc .char (3 : Int32) [(.int cc0), (.int cc1), (.int cc2)] (.int (0 : Int32))) (f1 : Arv Z h0 bd kd .byte (3 : Int32) [(.int (0 : Int32)), (.int (0 : Int32)), (.int (0 : Int32))] (.int (0 : Int32))) (gd : n0 ≤ bd) (ncd : ca ≠ bd) (hx0 : (255 : Int32) < cc0) :
    MetFree l (⟨"java/lang/StringUTF16", "compress", "([CI[BII)I"⟩ : MethodName) (head1 (Jvm.Cond.code (⟨"java/lang/StringUTF16", "compress", "([CI[BII)I"⟩ : MethodName) jdk_52_method_21_code 7 (some .int) :: ws) ({ frames := 0, cells := 0, slots := 0, locals := 0 } : Room)) (fun a U => a = #[(.ref ca), (.int (0 : Int32)), (.ref bd), (.int (0 : Int32)), (.int (3 : Int32))] ∧ Z.Warmed39 U.vm ∧ U.heap = h0) (fun _ _ _ _ _ => True) (fun _ U o U' => ∃ v L, o = .returned v ∧ Q_rm_cmp5_3_0 Z ca kc bd kd cc0 cc1 cc2 h0 n0 v U'.heap L ∧ FrameEnd U o U' L ({ frames := 0, cells := 0, slots := 0, locals := 0 } : Room).cells ({ frames := 0, cells := 0, slots := 0, locals := 0 } : Room).slots) := by
  refine MetFree.of_bodySF (plainFor_of_name pn_java_lang_StringUTF16) hisR ?_
  intro p e s m args below meth c s₁ Bd hml0 hP hK
  obtain ⟨rfl, hZ, hh⟩ := hP
  have hx := Bd.exec
  have hby := Bd.bytes
  have hml : c.maxLocals = 7 := hml0
  have hown : s.vm.findClass "java/lang/StringUTF16" = some m.cls := findClass_of_methodNamed Bd.named
  have hnm := (name_of_methodNamed Bd.named Bd.method).1
  have X0 : Stand p l e ({ frames := 0, cells := 0, slots := 0, locals := 0 } : Room) s m #[(.ref ca), (.int (0 : Int32)), (.ref bd), (.int (0 : Int32)), (.int (3 : Int32))] below meth c s₁ [] 0 0 := Stand.of_body Bd
  have e0 : s₁.heap = h0 := by rw [← hh, Bd.state]; rfl
  have N0 := Fr.nil n0
  have K00 : Keep h0 h0 [bd] := Keep.refl _ _
  have hlk0 : meth.locks = false := by first | assumption | exact BodyLoose.notSynchronized (by assumption) | exact Body.notSynchronized (by assumption)
  show Rch p e below s₁ (entryFrame m #[(.ref ca), (.int (0 : Int32)), (.ref bd), (.int (0 : Int32)), (.int (3 : Int32))] 7) (FinP s (Q_rm_cmp5_3_0 Z ca kc bd kd cc0 cc1 cc2 h0 n0) 0 0)
  refine Rch.cast (ef_rm_cmp5_3_0 m ca kc bd kd cc0 cc1 cc2) ?_
  show Rch p e below s₁ (mkF m 0 #[.val (.ref ca), .val (.int (0 : Int32)), .val (.ref bd), .val (.int (0 : Int32)), .val (.int (3 : Int32)), .unset, .unset] []) _
  refine w_iconst (pc' := 1) (v := 0) X0 hx hby djdk52m21_0 rfl rfl ?_
  refine w_istore (pc' := 3) (l' := #[.val (.ref ca), .val (.int (0 : Int32)), .val (.ref bd), .val (.int (0 : Int32)), .val (.int (3 : Int32)), .val (.int (0 : Int32)), .unset]) X0 hx hby djdk52m21_1 rfl rfl ?_
  refine w_iload (pc' := 5) X0 hx hby djdk52m21_3 rfl rfl ?_
  refine w_iload (pc' := 7) X0 hx hby djdk52m21_5 rfl rfl ?_
  refine w_icmpNo (pc' := 10) X0 hx hby djdk52m21_7 (XT.ii_ge_f (by decide)) rfl ?_
  refine w_aloadN (pc' := 11) X0 hx hby djdk52m21_10 rfl rfl rfl ?_
  refine w_iloadN (pc' := 12) X0 hx hby djdk52m21_11 rfl rfl ?_
  refine Rch.st (fun _ k => own_ldC X0 hx hZ e0 f0 (j := (0 : Int32)) ⟨by decide, by decide⟩ (by rfl) rfl rfl (hb hby djdk52m21_12) k) ?_
  show Rch p e below s₁ (mkF m 13 #[.val (.ref ca), .val (.int (0 : Int32)), .val (.ref bd), .val (.int (0 : Int32)), .val (.int (3 : Int32)), .val (.int (0 : Int32)), .unset] [(.int cc0)]) _
  refine w_istore (pc' := 15) (l' := #[.val (.ref ca), .val (.int (0 : Int32)), .val (.ref bd), .val (.int (0 : Int32)), .val (.int (3 : Int32)), .val (.int (0 : Int32)), .val (.int cc0)]) X0 hx hby djdk52m21_13 rfl rfl ?_
  refine w_iload (pc' := 17) X0 hx hby djdk52m21_15 rfl rfl ?_
  refine w_sipush (pc' := 20) (v := 255) X0 hx hby djdk52m21_17 rfl rfl ?_
  refine w_icmpNo (pc' := 23) X0 hx hby djdk52m21_20 (XT.ii_le_f (hx0)) rfl ?_
  refine w_iload (pc' := 25) X0 hx hby djdk52m21_23 rfl rfl ?_
  exact Rch.retV X0 hx Bd.returns rfl (Or.inl ⟨rfl, by simp, _, rfl⟩) (hb hby djdk52m21_25) (by rw [e0]; exact ⟨rfl, N0, K00⟩) (by decide) (by decide)

theorem ef_rm_cmp3_3_0 (m : MethodId) (ca : Addr) (kc : ClassId) (cc0 : Int32) (cc1 : Int32) (cc2 : Int32)  : entryFrame m #[(.ref ca), (.int (0 : Int32)), (.int (3 : Int32))] 6 = mkF m 0 #[.val (.ref ca), .val (.int (0 : Int32)), .val (.int (3 : Int32)), .unset, .unset, .unset] [] := by  first | (simp [entryFrame, mkF, argsToLocals, Value.category, maxLocals]; done) | rfl
def Q_rm_cmp3_3_0 (Z : State) (ca : Addr) (kc : ClassId) (cc0 : Int32) (cc1 : Int32) (cc2 : Int32) (h0 : Heap) (n0 : Nat) (v : Option Value) (h : Heap) (L : List Loc) : Prop := ∃ (t : Addr) (kt : ClassId), (v = some (.ref t)) ∧ (Fr n0 L) ∧ (Keep h0 h []) ∧ (h0.size ≤ t) ∧ (Arv Z h t kt .byte (6 : Int32) [(.int (own_lo cc0)), (.int (own_hi cc0)), (.int (own_lo cc1)), (.int (own_hi cc1)), (.int (own_lo cc2)), (.int (own_hi cc2))] (.int (0 : Int32)))
set_option maxRecDepth 65536 in
set_option maxHeartbeats 40000000 in
theorem rm_cmp3_3_0 (l : Launch) (Z : State) (a0 : Array Value) (hw : ∀ d ∈ tables_1, d.before a0 Z = true) (ws : List Jvm.Cond) (ca : Addr) (kc : ClassId) (cc0 : Int32) (cc1 : Int32) (cc2 : Int32) (h0 : Heap) (n0 : Nat) (Z0 : n0 ≤ h0.size) (SA : Sta Z Z.heap "java/lang/StringUTF16" "$assertionsDisabled" "Z" (.int 1)) (SH : Sta Z Z.heap "java/lang/StringUTF16" "HI_BYTE_SHIFT" "I" (.int 0)) (SL : Sta Z Z.heap "java/lang/StringUTF16" "LO_BYTE_SHIFT" "I" (.int 8)) (f3 : Arv Z h0 ca kc .char (3 : Int32) [(.int cc0), (.int cc1), (.int cc2)] (.int (0 : Int32))) (hx0 : (255 : Int32) < cc0) (hn0 : ¬ cc0 < 0) (hm0 : ¬ (65535 : Int32) < cc0) (Old0 : OldL Z n0 h0) :
    MetFree l (⟨"java/lang/StringUTF16", "compress", "([CII)[B"⟩ : MethodName) (head1 (Jvm.Cond.code (⟨"java/lang/StringUTF16", "compress", "([CII)[B"⟩ : MethodName) jdk_52_method_16_code 6 (some (.array .byte)) :: ws) ({ frames := 3, cells := 2, slots := 9, locals := 40 } : Room)) (fun a U => a = #[(.ref ca), (.int (0 : Int32)), (.int (3 : Int32))] ∧ Z.Warmed39 U.vm ∧ U.heap = h0) (fun _ _ _ _ _ => True) (fun _ U o U' => ∃ v L, o = .returned v ∧ Q_rm_cmp3_3_0 Z ca kc cc0 cc1 cc2 h0 n0 v U'.heap L ∧ FrameEnd U o U' L ({ frames := 3, cells := 2, slots := 9, locals := 40 } : Room).cells ({ frames := 3, cells := 2, slots := 9, locals := 40 } : Room).slots) := by
  refine MetFree.of_bodySF (plainFor_of_name pn_java_lang_StringUTF16) hisR ?_
  intro p e s m args below meth c s₁ Bd hml0 hP hK
  obtain ⟨rfl, hZ, hh⟩ := hP
  have hx := Bd.exec
  have hby := Bd.bytes
  have hml : c.maxLocals = 6 := hml0
  have hown : s.vm.findClass "java/lang/StringUTF16" = some m.cls := findClass_of_methodNamed Bd.named
  have hnm := (name_of_methodNamed Bd.named Bd.method).1
  have X0 : Stand p l e ({ frames := 3, cells := 2, slots := 9, locals := 40 } : Room) s m #[(.ref ca), (.int (0 : Int32)), (.int (3 : Int32))] below meth c s₁ [] 0 0 := Stand.of_body Bd
  have e0 : s₁.heap = h0 := by rw [← hh, Bd.state]; rfl
  have N0 := Fr.nil n0
  have K00 : Keep h0 h0 [] := Keep.refl _ _
  have hlk0 : meth.locks = false := by first | assumption | exact BodyLoose.notSynchronized (by assumption) | exact Body.notSynchronized (by assumption)
  show Rch p e below s₁ (entryFrame m #[(.ref ca), (.int (0 : Int32)), (.int (3 : Int32))] 6) (FinP s (Q_rm_cmp3_3_0 Z ca kc cc0 cc1 cc2 h0 n0) 2 9)
  refine Rch.cast (ef_rm_cmp3_3_0 m ca kc cc0 cc1 cc2) ?_
  show Rch p e below s₁ (mkF m 0 #[.val (.ref ca), .val (.int (0 : Int32)), .val (.int (3 : Int32)), .unset, .unset, .unset] []) _
  refine w_iloadN (pc' := 1) X0 hx hby djdk52m16_0 rfl rfl ?_
  obtain ⟨T600, h600, kc600, X600, e600, E600, A600, st600⟩ := newP X0 hx hZ (hw _ (List.mem_of_getElem? (i := 16) rfl)) e0 (g := (mkF m 1 #[.val (.ref ca), .val (.int (0 : Int32)), .val (.int (3 : Int32)), .unset, .unset, .unset] [(.int (3 : Int32))])) rfl (hb hby djdk52m16_1) rfl (by decide : ¬ ((3 : Int32) < (0 : Int32))) (cap := 3) (by decide : (3 : Int32).toNatClampNeg ≤ 3) (by decide) (by decide) (by decide)
  obtain ⟨a600, g600⟩ : ∃ z, z = h0.size := ⟨_, rfl⟩
  rw [← g600] at A600 st600
  have ne601 : ca ≠ a600 := by rw [g600]; exact Nat.ne_of_lt f3.lt
  have ge602 : n0 ≤ a600 := Nat.le_trans Z0 (Nat.le_of_eq g600.symm)
  have f604 : Arv Z h600 ca kc .char (3 : Int32) [(.int cc0), (.int cc1), (.int cc2)] (.int (0 : Int32)) := f3.ext E600
  have Old605 := Old0.ext E600
  have Z606 := Nat.le_trans Z0 E600.1
  have Kp607 : Keep h0 h600 [] := K00.ext E600
  have f608 : Arv Z h600 a600 kc600 .byte (3 : Int32) [(.int (0 : Int32)), (.int (0 : Int32)), (.int (0 : Int32))] (.int (0 : Int32)) := (Arv.new A600 (by decide : ¬ ((3 : Int32) < (0 : Int32)))).pad (pad_rep [] (.int (0 : Int32)) 3)
  refine Rch.st (fun _ k => st600 _ k) ?_
  show Rch p e below T600 (mkF m 3 #[.val (.ref ca), .val (.int (0 : Int32)), .val (.int (3 : Int32)), .unset, .unset, .unset] [(.ref a600)]) _
  refine w_astoreN (pc' := 4) (l' := #[.val (.ref ca), .val (.int (0 : Int32)), .val (.int (3 : Int32)), .val (.ref a600), .unset, .unset]) X600 hx hby djdk52m16_3 rfl rfl rfl ?_
  refine w_aloadN (pc' := 5) X600 hx hby djdk52m16_4 rfl rfl rfl ?_
  refine w_iloadN (pc' := 6) X600 hx hby djdk52m16_5 rfl rfl ?_
  refine w_aloadN (pc' := 7) X600 hx hby djdk52m16_6 rfl rfl rfl ?_
  refine w_iconst (pc' := 8) (v := 0) X600 hx hby djdk52m16_7 rfl rfl ?_
  refine w_iloadN (pc' := 9) X600 hx hby djdk52m16_8 rfl rfl ?_
  obtain ⟨_, _, ⟨T609, L609, k609, n609⟩, -, X609, ⟨Lc609, hQ609, l609, y609, z609⟩, st609⟩ := Jvm.LawKit.callS X600 hx (y := (⟨"java/lang/StringUTF16", "compress", "([CI[BII)I"⟩ : MethodName)) hown (mvT hZ (hw _ (List.mem_of_getElem? (i := 54) rfl))) (mvT hZ (hw _ (List.mem_of_getElem? (i := 55) rfl))) (mvT hZ (hw _ (List.mem_of_getElem? (i := 52) rfl))) (mvT hZ (hw _ (List.mem_of_getElem? (i := 56) rfl))) (by decide) (backOf (W := 0) (rm_cmp5_3_0 l Z a0 hw [] ca kc a600 kc600 cc0 cc1 cc2 h600 n0 Z606 f604 f608 (ge602) (ne601) (hx0)) hZ (hw _ (List.mem_of_getElem? (i := 56) rfl)) (hw _ (List.mem_of_getElem? (i := 52) rfl)) (by decide) (by decide)) (g := (mkF m 9 #[.val (.ref ca), .val (.int (0 : Int32)), .val (.int (3 : Int32)), .val (.ref a600), .unset, .unset] [(.int (3 : Int32)), (.int (0 : Int32)), (.ref a600), (.int (0 : Int32)), (.ref ca)])) rfl (by rw [hml]; rfl) (argsL := [(.ref ca), (.int (0 : Int32)), (.ref a600), (.int (0 : Int32)), (.int (3 : Int32))]) (rest := []) (lenOf pd___CI_BII_I rfl) rfl (by show 2 * 0 + _ ≤ _; exact Nat.le_of_eq rfl) (hb hby djdk52m16_9) (fun _ _ => ⟨rfl, e600, (by decide : 1 + 0 ≤ _), (by decide : 3 + 0 ≤ _)⟩)
  dsimp only [Pt.U, Pt.locs, Pt.cells, Pt.slots] at X609 l609 y609 z609 st609 hQ609
  subst l609 y609 z609
  obtain ⟨rfl, NQ609, K609⟩ := hQ609
  have N610 := Fr.app N0 NQ609
  have f611 : Arv Z T609.heap ca kc .char (3 : Int32) [(.int cc0), (.int cc1), (.int cc2)] (.int (0 : Int32)) := f604.keep K609 (ninS ne601 nin0)
  have Old612 := Old605.keep K609 (allS ge602 all0)
  have Kp613 : Keep h0 T609.heap [] := Kp607.trans K609 (allS (Or.inr (Nat.le_trans K00.1 (Nat.le_of_eq g600.symm))) all0)
  have Z614 := Nat.le_trans Z606 K609.1
  refine Rch.st (fun _ k => st609 _ k) ?_
  show Rch p e below T609 (mkF m 12 #[.val (.ref ca), .val (.int (0 : Int32)), .val (.int (3 : Int32)), .val (.ref a600), .unset, .unset] [(.int (0 : Int32))]) _
  refine w_istore (pc' := 14) (l' := #[.val (.ref ca), .val (.int (0 : Int32)), .val (.int (3 : Int32)), .val (.ref a600), .val (.int (0 : Int32)), .unset]) X609 hx hby djdk52m16_12 rfl rfl ?_
  refine w_iload (pc' := 16) X609 hx hby djdk52m16_14 rfl rfl ?_
  refine w_iloadN (pc' := 17) X609 hx hby djdk52m16_16 rfl rfl ?_
  refine w_icmpNo (pc' := 20) X609 hx hby djdk52m16_17 (XT.ii_eq_f (by decide)) rfl ?_
  refine w_aloadN (pc' := 21) X609 hx hby djdk52m16_20 rfl rfl rfl ?_
  refine w_iloadN (pc' := 22) X609 hx hby djdk52m16_21 rfl rfl ?_
  refine w_iloadN (pc' := 23) X609 hx hby djdk52m16_22 rfl rfl ?_
  obtain ⟨_, _, ⟨T615, L615, k615, n615⟩, -, X615, ⟨Lc615, hQ615, l615, y615, z615⟩, st615⟩ := Jvm.LawKit.callS X609 hx (y := (⟨"java/lang/StringUTF16", "toBytes", "([CII)[B"⟩ : MethodName)) hown (mvT hZ (hw _ (List.mem_of_getElem? (i := 64) rfl))) (mvT hZ (hw _ (List.mem_of_getElem? (i := 65) rfl))) (mvT hZ (hw _ (List.mem_of_getElem? (i := 52) rfl))) (mvT hZ (hw _ (List.mem_of_getElem? (i := 66) rfl))) (by decide) (backOf (W := 0) (rm_tob_3 l Z a0 hw [] ca kc cc0 cc1 cc2 T609.heap n0 Z614 (SA) (SH) (SL) f611 Old612) hZ (hw _ (List.mem_of_getElem? (i := 66) rfl)) (hw _ (List.mem_of_getElem? (i := 52) rfl)) (by decide) (by decide)) (g := (mkF m 23 #[.val (.ref ca), .val (.int (0 : Int32)), .val (.int (3 : Int32)), .val (.ref a600), .val (.int (0 : Int32)), .unset] [(.int (3 : Int32)), (.int (0 : Int32)), (.ref ca)])) rfl (by rw [hml]; rfl) (argsL := [(.ref ca), (.int (0 : Int32)), (.int (3 : Int32))]) (rest := []) (lenOf pd___CII__B rfl) rfl (by show 2 * 0 + _ ≤ _; exact Nat.le_of_eq rfl) (hb hby djdk52m16_23) (fun _ _ => ⟨rfl, (rfl : T609.heap = T609.heap), (by decide : 1 + 1 ≤ _), (by decide : 3 + 6 ≤ _)⟩)
  dsimp only [Pt.U, Pt.locs, Pt.cells, Pt.slots] at X615 l615 y615 z615 st615 hQ615
  subst l615 y615 z615
  obtain ⟨t_615, kt_615, rfl, NQ615, K615, pq615_0, fq615_0⟩ := hQ615
  have N616 := Fr.app N610 NQ615
  have ne617 : ca ≠ t_615 := Nat.ne_of_lt (Nat.lt_of_lt_of_le f611.lt pq615_0)
  have ge618 : n0 ≤ t_615 := Nat.le_trans Z614 pq615_0
  have f619 : Arv Z T615.heap ca kc .char (3 : Int32) [(.int cc0), (.int cc1), (.int cc2)] (.int (0 : Int32)) := f611.keep K615 nin0
  have Old620 := Old612.keep K615 all0
  have Kp621 : Keep h0 T615.heap [] := Kp613.trans K615 all0
  have Z622 := Nat.le_trans Z614 K615.1
  refine Rch.st (fun _ k => st615 _ k) ?_
  show Rch p e below T615 (mkF m 26 #[.val (.ref ca), .val (.int (0 : Int32)), .val (.int (3 : Int32)), .val (.ref a600), .val (.int (0 : Int32)), .unset] [(.ref t_615)]) _
  refine w_astore (pc' := 28) (l' := #[.val (.ref ca), .val (.int (0 : Int32)), .val (.int (3 : Int32)), .val (.ref a600), .val (.int (0 : Int32)), .val (.ref t_615)]) X615 hx hby djdk52m16_26 rfl rfl rfl ?_
  refine w_aload (pc' := 30) X615 hx hby djdk52m16_28 rfl rfl rfl ?_
  refine w_iload (pc' := 32) X615 hx hby djdk52m16_30 rfl rfl ?_
  obtain ⟨_, _, ⟨T623, L623, k623, n623⟩, -, X623, ⟨Lc623, hQ623, l623, y623, z623⟩, st623⟩ := Jvm.LawKit.callS X615 hx (y := (⟨"java/lang/StringUTF16", "getChar", "([BI)C"⟩ : MethodName)) hown (mvT hZ (hw _ (List.mem_of_getElem? (i := 80) rfl))) (mvT hZ (hw _ (List.mem_of_getElem? (i := 81) rfl))) (mvT hZ (hw _ (List.mem_of_getElem? (i := 52) rfl))) (mvT hZ (hw _ (List.mem_of_getElem? (i := 82) rfl))) (by decide) (backOf (W := 0) (rm_get_0 l Z a0 hw [] t_615 kt_615 (6 : Int32) ([(.int (own_lo cc0)), (.int (own_hi cc0)), (.int (own_lo cc1)), (.int (own_hi cc1)), (.int (own_lo cc2)), (.int (own_hi cc2))]) (.int (0 : Int32)) (own_lo cc0) (own_hi cc0) T615.heap n0 Z622 (SA) (SH) (SL) fq615_0 (by decide) (by decide) (rfl) (rfl) Old620) hZ (hw _ (List.mem_of_getElem? (i := 82) rfl)) (hw _ (List.mem_of_getElem? (i := 52) rfl)) (by decide) (by decide)) (g := (mkF m 32 #[.val (.ref ca), .val (.int (0 : Int32)), .val (.int (3 : Int32)), .val (.ref a600), .val (.int (0 : Int32)), .val (.ref t_615)] [(.int (0 : Int32)), (.ref t_615)])) rfl (by rw [hml]; rfl) (argsL := [(.ref t_615), (.int (0 : Int32))]) (rest := []) (lenOf pd___BI_C rfl) rfl (by show 2 * 0 + _ ≤ _; exact Nat.le_of_eq rfl) (hb hby djdk52m16_32) (fun _ _ => ⟨rfl, (rfl : T615.heap = T615.heap), (by decide : 2 + 0 ≤ _), (by decide : 9 + 0 ≤ _)⟩)
  dsimp only [Pt.U, Pt.locs, Pt.cells, Pt.slots] at X623 l623 y623 z623 st623 hQ623
  subst l623 y623 z623
  obtain ⟨rfl, NQ623, K623⟩ := hQ623
  have N624 := Fr.app N616 NQ623
  refine Rch.st (fun _ k => st623 _ k) ?_
  show Rch p e below T623 (mkF m 35 #[.val (.ref ca), .val (.int (0 : Int32)), .val (.int (3 : Int32)), .val (.ref a600), .val (.int (0 : Int32)), .val (.ref t_615)] [(.int (own_gc (own_lo cc0) (own_hi cc0)))]) _
  have r625 : (own_gc (own_lo cc0) (own_hi cc0)) = cc0 := own_getput hn0 hm0
  rw [r625]
  show Rch p e below T623 (mkF m 35 #[.val (.ref ca), .val (.int (0 : Int32)), .val (.int (3 : Int32)), .val (.ref a600), .val (.int (0 : Int32)), .val (.ref t_615)] [(.int cc0)]) _
  refine w_sipush (pc' := 38) (v := 255) X623 hx hby djdk52m16_35 rfl rfl ?_
  refine w_icmpYes (pc' := 54) X623 hx hby djdk52m16_38 (XT.ii_gt_t (hx0)) (by decide) ?_
  refine w_aload (pc' := 56) X623 hx hby djdk52m16_54 rfl rfl rfl ?_
  exact Rch.retV X623 hx Bd.returns rfl (Or.inr (Or.inr (Or.inr (Or.inr ⟨rfl, rfl, rfl⟩)))) (hb hby djdk52m16_56) (by rw [K623]; exact ⟨t_615, kt_615, rfl, N624, Kp621, (Nat.le_trans Kp613.1 pq615_0), fq615_0⟩) (by decide) (by decide)

theorem ef_rm_init4_3_0 (m : MethodId) (G1 : Int32) (a5 : Addr) (ca : Addr) (kc : ClassId) (cc0 : Int32) (cc1 : Int32) (cc2 : Int32)  : entryFrame m #[(.ref a5), (.ref ca), (.int (0 : Int32)), (.int (3 : Int32)), .null] 6 = mkF m 0 #[.val (.ref a5), .val (.ref ca), .val (.int (0 : Int32)), .val (.int (3 : Int32)), .val .null, .unset] [] := by  first | (simp [entryFrame, mkF, argsToLocals, Value.category, maxLocals]; done) | rfl
def Q_rm_init4_3_0 (Z : State) (G1 : Int32) (a5 : Addr) (ca : Addr) (kc : ClassId) (cc0 : Int32) (cc1 : Int32) (cc2 : Int32) (h0 : Heap) (n0 : Nat) (v : Option Value) (h : Heap) (L : List Loc) : Prop := ∃ (t : Addr) (kt : ClassId), (v = none) ∧ (Fr n0 L) ∧ (Keep h0 h [a5]) ∧ (h0.size ≤ t) ∧ (Fld Z h a5 "java/lang/String" "coder" "B" (.int (1 : Int32))) ∧ (Fld Z h a5 "java/lang/String" "value" "[B" (.ref t)) ∧ (Arv Z h t kt .byte (6 : Int32) [(.int (own_lo cc0)), (.int (own_hi cc0)), (.int (own_lo cc1)), (.int (own_hi cc1)), (.int (own_lo cc2)), (.int (own_hi cc2))] (.int (0 : Int32)))
set_option maxRecDepth 65536 in
set_option maxHeartbeats 40000000 in
theorem rm_init4_3_0 (l : Launch) (Z : State) (a0 : Array Value) (hw : ∀ d ∈ tables_1, d.before a0 Z = true) (ws : List Jvm.Cond) (G1 : Int32) (a5 : Addr) (ca : Addr) (kc : ClassId) (cc0 : Int32) (cc1 : Int32) (cc2 : Int32) (h0 : Heap) (n0 : Nat) (Z0 : n0 ≤ h0.size) (O2 : Sta Z Z.heap "java/lang/String" "COMPACT_STRINGS" "Z" (.int G1)) (P5 : ¬ G1 = 0) (SA : Sta Z Z.heap "java/lang/StringUTF16" "$assertionsDisabled" "Z" (.int 1)) (SH : Sta Z Z.heap "java/lang/StringUTF16" "HI_BYTE_SHIFT" "I" (.int 0)) (SL : Sta Z Z.heap "java/lang/StringUTF16" "LO_BYTE_SHIFT" "I" (.int 8)) (f5 : Exa Z h0 a5 "java/lang/String") (f6 : Fld Z h0 a5 "java/lang/String" "coder" "B" (.int (0 : Int32))) (f7 : Fld Z h0 a5 "java/lang/String" "value" "[B" .null) (f8 : Arv Z h0 ca kc .char (3 : Int32) [(.int cc0), (.int cc1), (.int cc2)] (.int (0 : Int32))) (ga : n0 ≤ a5) (nca : a5 ≠ ca) (hx0 : (255 : Int32) < cc0) (hn0 : ¬ cc0 < 0) (hm0 : ¬ (65535 : Int32) < cc0) (Old0 : OldL Z n0 h0) :
    MetFree l (⟨"java/lang/String", "<init>", "([CIILjava/lang/Void;)V"⟩ : MethodName) (head1 (Jvm.Cond.code (⟨"java/lang/String", "<init>", "([CIILjava/lang/Void;)V"⟩ : MethodName) jdk_42_method_149_code 6 none :: ws) ({ frames := 4, cells := 2, slots := 9, locals := 57 } : Room)) (fun a U => a = #[(.ref a5), (.ref ca), (.int (0 : Int32)), (.int (3 : Int32)), .null] ∧ Z.Warmed39 U.vm ∧ U.heap = h0) (fun _ _ _ _ _ => True) (fun _ U o U' => ∃ v L, o = .returned v ∧ Q_rm_init4_3_0 Z G1 a5 ca kc cc0 cc1 cc2 h0 n0 v U'.heap L ∧ FrameEnd U o U' L ({ frames := 4, cells := 2, slots := 9, locals := 57 } : Room).cells ({ frames := 4, cells := 2, slots := 9, locals := 57 } : Room).slots) := by
  refine MetFree.of_bodySF (plainFor_of_name pn_java_lang_String) hisR ?_
  intro p e s m args below meth c s₁ Bd hml0 hP hK
  obtain ⟨rfl, hZ, hh⟩ := hP
  have hx := Bd.exec
  have hby := Bd.bytes
  have hml : c.maxLocals = 6 := hml0
  have hown : s.vm.findClass "java/lang/String" = some m.cls := findClass_of_methodNamed Bd.named
  have hnm := (name_of_methodNamed Bd.named Bd.method).1
  have X0 : Stand p l e ({ frames := 4, cells := 2, slots := 9, locals := 57 } : Room) s m #[(.ref a5), (.ref ca), (.int (0 : Int32)), (.int (3 : Int32)), .null] below meth c s₁ [] 0 0 := Stand.of_body Bd
  have e0 : s₁.heap = h0 := by rw [← hh, Bd.state]; rfl
  have N0 := Fr.nil n0
  have K00 : Keep h0 h0 [a5] := Keep.refl _ _
  have hlk0 : meth.locks = false := by first | assumption | exact BodyLoose.notSynchronized (by assumption) | exact Body.notSynchronized (by assumption)
  show Rch p e below s₁ (entryFrame m #[(.ref a5), (.ref ca), (.int (0 : Int32)), (.int (3 : Int32)), .null] 6) (FinP s (Q_rm_init4_3_0 Z G1 a5 ca kc cc0 cc1 cc2 h0 n0) 2 9)
  refine Rch.cast (ef_rm_init4_3_0 m G1 a5 ca kc cc0 cc1 cc2) ?_
  show Rch p e below s₁ (mkF m 0 #[.val (.ref a5), .val (.ref ca), .val (.int (0 : Int32)), .val (.int (3 : Int32)), .val .null, .unset] []) _
  refine w_aloadN (pc' := 1) X0 hx hby djdk42m149_0 rfl rfl rfl ?_
  obtain ⟨T626, X626, e626, st626⟩ := initO X0 hx hZ hown (hw _ (List.mem_of_getElem? (i := 12) rfl)) (hw _ (List.mem_of_getElem? (i := 13) rfl)) (hw _ (List.mem_of_getElem? (i := 14) rfl)) e0 (g := (mkF m 1 #[.val (.ref a5), .val (.ref ca), .val (.int (0 : Int32)), .val (.int (3 : Int32)), .val .null, .unset] [(.ref a5)])) rfl (by rw [hml]; rfl) rfl (hb hby djdk42m149_1) (by decide) (W := 0) (by show 2 * 0 + _ ≤ _; exact Nat.le_of_eq rfl) (by decide)
  refine Rch.st (fun _ k => st626 _ k) ?_
  show Rch p e below T626 (mkF m 4 #[.val (.ref a5), .val (.ref ca), .val (.int (0 : Int32)), .val (.int (3 : Int32)), .val .null, .unset] []) _
  refine w_iloadN (pc' := 5) X626 hx hby djdk42m149_4 rfl rfl ?_
  refine w_ifYes (pc' := 27) X626 hx hby djdk42m149_5 (XT.i0_ne_t (by decide)) (by decide) ?_
  obtain ⟨T627, X627, e627, st627⟩ := getS X626 hx hZ hown (host := "") (hw _ (List.mem_of_getElem? (i := 48) rfl)) Via.refl e626 (O2.ext Old0.2) (g := (mkF m 27 #[.val (.ref a5), .val (.ref ca), .val (.int (0 : Int32)), .val (.int (3 : Int32)), .val .null, .unset] [])) rfl (hb hby djdk42m149_27)
  refine Rch.st (fun _ k => st627 _ k) ?_
  show Rch p e below T627 (mkF m 30 #[.val (.ref a5), .val (.ref ca), .val (.int (0 : Int32)), .val (.int (3 : Int32)), .val .null, .unset] [(.int G1)]) _
  refine w_ifNo (pc' := 33) X627 hx hby djdk42m149_30 (XT.i0_eq_f (P5)) rfl ?_
  refine w_aloadN (pc' := 34) X627 hx hby djdk42m149_33 rfl rfl rfl ?_
  refine w_iloadN (pc' := 35) X627 hx hby djdk42m149_34 rfl rfl ?_
  refine w_iloadN (pc' := 36) X627 hx hby djdk42m149_35 rfl rfl ?_
  obtain ⟨_, _, ⟨T628, L628, k628, n628⟩, -, X628, ⟨Lc628, hQ628, l628, y628, z628⟩, st628⟩ := Jvm.LawKit.callS X627 hx (y := (⟨"java/lang/StringUTF16", "compress", "([CII)[B"⟩ : MethodName)) hown (mvT hZ (hw _ (List.mem_of_getElem? (i := 50) rfl))) (mvT hZ (hw _ (List.mem_of_getElem? (i := 51) rfl))) (mvT hZ (hw _ (List.mem_of_getElem? (i := 52) rfl))) (mvT hZ (hw _ (List.mem_of_getElem? (i := 53) rfl))) (by decide) (backOf (W := 0) (rm_cmp3_3_0 l Z a0 hw [] ca kc cc0 cc1 cc2 h0 n0 Z0 (SA) (SH) (SL) f8 (hx0) (hn0) (hm0) Old0) hZ (hw _ (List.mem_of_getElem? (i := 53) rfl)) (hw _ (List.mem_of_getElem? (i := 52) rfl)) (by decide) (by decide)) (g := (mkF m 36 #[.val (.ref a5), .val (.ref ca), .val (.int (0 : Int32)), .val (.int (3 : Int32)), .val .null, .unset] [(.int (3 : Int32)), (.int (0 : Int32)), (.ref ca)])) rfl (by rw [hml]; rfl) (argsL := [(.ref ca), (.int (0 : Int32)), (.int (3 : Int32))]) (rest := []) (lenOf pd___CII__B rfl) rfl (by show 2 * 0 + _ ≤ _; exact Nat.le_of_eq rfl) (hb hby djdk42m149_36) (fun _ _ => ⟨rfl, e627, (by decide : 0 + 2 ≤ _), (by decide : 0 + 9 ≤ _)⟩)
  dsimp only [Pt.U, Pt.locs, Pt.cells, Pt.slots] at X628 l628 y628 z628 st628 hQ628
  subst l628 y628 z628
  obtain ⟨t_628, kt_628, rfl, NQ628, K628, pq628_0, fq628_0⟩ := hQ628
  have N629 := Fr.app N0 NQ628
  have ne630 : a5 ≠ t_628 := Nat.ne_of_lt (Nat.lt_of_lt_of_le f5.lt pq628_0)
  have ne631 : ca ≠ t_628 := Nat.ne_of_lt (Nat.lt_of_lt_of_le f8.lt pq628_0)
  have ge632 : n0 ≤ t_628 := Nat.le_trans Z0 pq628_0
  have f633 : Exa Z T628.heap a5 "java/lang/String" := f5.keep K628
  have f634 : Fld Z T628.heap a5 "java/lang/String" "coder" "B" (.int (0 : Int32)) := f6.keep K628 nin0
  have f635 : Fld Z T628.heap a5 "java/lang/String" "value" "[B" .null := f7.keep K628 nin0
  have f636 : Arv Z T628.heap ca kc .char (3 : Int32) [(.int cc0), (.int cc1), (.int cc2)] (.int (0 : Int32)) := f8.keep K628 nin0
  have Old637 := Old0.keep K628 all0
  have Kp638 : Keep h0 T628.heap [a5] := K00.trans K628 all0
  have Z639 := Nat.le_trans Z0 K628.1
  refine Rch.st (fun _ k => st628 _ k) ?_
  show Rch p e below T628 (mkF m 39 #[.val (.ref a5), .val (.ref ca), .val (.int (0 : Int32)), .val (.int (3 : Int32)), .val .null, .unset] [(.ref t_628)]) _
  refine w_astore (pc' := 41) (l' := #[.val (.ref a5), .val (.ref ca), .val (.int (0 : Int32)), .val (.int (3 : Int32)), .val .null, .val (.ref t_628)]) X628 hx hby djdk42m149_39 rfl rfl rfl ?_
  refine w_aloadN (pc' := 42) X628 hx hby djdk42m149_41 rfl rfl rfl ?_
  refine w_aload (pc' := 44) X628 hx hby djdk42m149_42 rfl rfl rfl ?_
  refine w_iloadN (pc' := 45) X628 hx hby djdk42m149_44 rfl rfl ?_
  obtain ⟨_, _, ⟨T640, L640, k640, n640⟩, -, X640, ⟨Lc640, hQ640, l640, y640, z640⟩, st640⟩ := Jvm.LawKit.callS X628 hx (y := (⟨"java/lang/StringUTF16", "coderFromArrayLen", "([BI)B"⟩ : MethodName)) hown (mvT hZ (hw _ (List.mem_of_getElem? (i := 57) rfl))) (mvT hZ (hw _ (List.mem_of_getElem? (i := 58) rfl))) (mvT hZ (hw _ (List.mem_of_getElem? (i := 52) rfl))) (mvT hZ (hw _ (List.mem_of_getElem? (i := 59) rfl))) (by decide) (backOf (W := 1) (rm_cfl l Z a0 hw [] t_628 kt_628 (3 : Int32) (6 : Int32) ([(.int (own_lo cc0)), (.int (own_hi cc0)), (.int (own_lo cc1)), (.int (own_hi cc1)), (.int (own_lo cc2)), (.int (own_hi cc2))]) (.int (0 : Int32)) T628.heap n0 Z639 fq628_0) hZ (hw _ (List.mem_of_getElem? (i := 59) rfl)) (hw _ (List.mem_of_getElem? (i := 52) rfl)) (by decide) (by decide)) (g := (mkF m 45 #[.val (.ref a5), .val (.ref ca), .val (.int (0 : Int32)), .val (.int (3 : Int32)), .val .null, .val (.ref t_628)] [(.int (3 : Int32)), (.ref t_628), (.ref a5)])) rfl (by rw [hml]; rfl) (argsL := [(.ref t_628), (.int (3 : Int32))]) (rest := [(.ref a5)]) (lenOf pd___BI_B rfl) rfl (by show 2 * 0 + _ ≤ _; exact Nat.le_of_eq rfl) (hb hby djdk42m149_45) (fun _ _ => ⟨rfl, (rfl : T628.heap = T628.heap), (by decide : 2 + 0 ≤ _), (by decide : 9 + 0 ≤ _)⟩)
  dsimp only [Pt.U, Pt.locs, Pt.cells, Pt.slots] at X640 l640 y640 z640 st640 hQ640
  subst l640 y640 z640
  obtain ⟨rfl, NQ640, K640⟩ := hQ640
  have N641 := Fr.app N629 NQ640
  refine Rch.st (fun _ k => st640 _ k) ?_
  show Rch p e below T640 (mkF m 48 #[.val (.ref a5), .val (.ref ca), .val (.int (0 : Int32)), .val (.int (3 : Int32)), .val .null, .val (.ref t_628)] [(.int ((XT.ushr ((3 : Int32) - (6 : Int32)) (31 : Int32))).toInt8.toInt32), (.ref a5)]) _
  have r642 : ((XT.ushr ((3 : Int32) - (6 : Int32)) (31 : Int32))).toInt8.toInt32 = (1 : Int32) := by decide
  rw [r642]
  show Rch p e below T640 (mkF m 48 #[.val (.ref a5), .val (.ref ca), .val (.int (0 : Int32)), .val (.int (3 : Int32)), .val .null, .val (.ref t_628)] [(.int (1 : Int32)), (.ref a5)]) _
  obtain ⟨T643, h643, X643, e643, W643, st643⟩ := putF X640 hx hZ hown (host := "") (Or.inl (hw _ (List.mem_of_getElem? (i := 22) rfl))) Via.refl K640 f634 f633 (Or.inr ⟨(hw _ (List.mem_of_getElem? (i := 18) rfl)), rfl, hnm⟩) (hw _ (List.mem_of_getElem? (i := 3) rfl)) (ty := .byte) (by decide) rfl rfl (g := (mkF m 48 #[.val (.ref a5), .val (.ref ca), .val (.int (0 : Int32)), .val (.int (3 : Int32)), .val .null, .val (.ref t_628)] [(.int (1 : Int32)), (.ref a5)])) rfl rfl (hb hby djdk42m149_48)
  have N644 := Fr.snoc X643 N641 ga
  have f645 : Exa Z h643 a5 "java/lang/String" := f633.wr W643
  have f646 : Fld Z h643 a5 "java/lang/String" "coder" "B" (.int (1 : Int32)) := f634.same W643
  have f647 : Fld Z h643 a5 "java/lang/String" "value" "[B" .null := f635.other W643 (Or.inr (slot_ne (t := (.array .byte)) (t' := .byte) (Or.inr (hw _ (List.mem_of_getElem? (i := 17) rfl))) (Or.inr (hw _ (List.mem_of_getElem? (i := 18) rfl))) (by decide) (by decide) (by decide)))
  have f648 : Arv Z h643 ca kc .char (3 : Int32) [(.int cc0), (.int cc1), (.int cc2)] (.int (0 : Int32)) := f636.other W643 (Ne.symm nca)
  have f649 : Arv Z h643 t_628 kt_628 .byte (6 : Int32) [(.int (own_lo cc0)), (.int (own_hi cc0)), (.int (own_lo cc1)), (.int (own_hi cc1)), (.int (own_lo cc2)), (.int (own_hi cc2))] (.int (0 : Int32)) := fq628_0.other W643 (Ne.symm ne630)
  have Old650 := Old637.wr W643 ga
  have Z651 := Nat.le_trans Z639 (Keep.of_wr W643).1
  have Kp652 : Keep h0 h643 [a5] := Kp638.wr W643 (Or.inl (List.mem_of_getElem? (i := 0) rfl))
  refine Rch.st (fun _ k => st643 _ k) ?_
  show Rch p e below T643 (mkF m 51 #[.val (.ref a5), .val (.ref ca), .val (.int (0 : Int32)), .val (.int (3 : Int32)), .val .null, .val (.ref t_628)] []) _
  refine w_aloadN (pc' := 52) X643 hx hby djdk42m149_51 rfl rfl rfl ?_
  refine w_aload (pc' := 54) X643 hx hby djdk42m149_52 rfl rfl rfl ?_
  obtain ⟨T653, h653, X653, e653, W653, st653⟩ := putF X643 hx hZ hown (host := "") (Or.inl (hw _ (List.mem_of_getElem? (i := 21) rfl))) Via.refl e643 f647 f645 (Or.inr ⟨(hw _ (List.mem_of_getElem? (i := 17) rfl)), rfl, hnm⟩) (hw _ (List.mem_of_getElem? (i := 3) rfl)) (ty := (.array .byte)) (by decide) rfl rfl (g := (mkF m 54 #[.val (.ref a5), .val (.ref ca), .val (.int (0 : Int32)), .val (.int (3 : Int32)), .val .null, .val (.ref t_628)] [(.ref t_628), (.ref a5)])) rfl rfl (hb hby djdk42m149_54)
  have N654 := Fr.snoc X653 N644 ga
  have f655 : Exa Z h653 a5 "java/lang/String" := f645.wr W653
  have f656 : Fld Z h653 a5 "java/lang/String" "coder" "B" (.int (1 : Int32)) := f646.other W653 (Or.inr (slot_ne (t := .byte) (t' := (.array .byte)) (Or.inr (hw _ (List.mem_of_getElem? (i := 18) rfl))) (Or.inr (hw _ (List.mem_of_getElem? (i := 17) rfl))) (by decide) (by decide) (by decide)))
  have f657 : Fld Z h653 a5 "java/lang/String" "value" "[B" (.ref t_628) := f647.same W653
  have f658 : Arv Z h653 ca kc .char (3 : Int32) [(.int cc0), (.int cc1), (.int cc2)] (.int (0 : Int32)) := f648.other W653 (Ne.symm nca)
  have f659 : Arv Z h653 t_628 kt_628 .byte (6 : Int32) [(.int (own_lo cc0)), (.int (own_hi cc0)), (.int (own_lo cc1)), (.int (own_hi cc1)), (.int (own_lo cc2)), (.int (own_hi cc2))] (.int (0 : Int32)) := f649.other W653 (Ne.symm ne630)
  have Old660 := Old650.wr W653 ga
  have Z661 := Nat.le_trans Z651 (Keep.of_wr W653).1
  have Kp662 : Keep h0 h653 [a5] := Kp652.wr W653 (Or.inl (List.mem_of_getElem? (i := 0) rfl))
  refine Rch.st (fun _ k => st653 _ k) ?_
  show Rch p e below T653 (mkF m 57 #[.val (.ref a5), .val (.ref ca), .val (.int (0 : Int32)), .val (.int (3 : Int32)), .val .null, .val (.ref t_628)] []) _
  exact Rch.ret0 X653 hx Bd.returns (hb hby djdk42m149_57) (by rw [e653]; exact ⟨t_628, kt_628, rfl, N654, Kp662, (Nat.le_trans K00.1 pq628_0), f656, f657, f659⟩) (by decide) (by decide)

theorem ef_rm_init1_3_0 (m : MethodId) (G1 : Int32) (a5 : Addr) (ca : Addr) (kc : ClassId) (cc0 : Int32) (cc1 : Int32) (cc2 : Int32)  : entryFrame m #[(.ref a5), (.ref ca)] 2 = mkF m 0 #[.val (.ref a5), .val (.ref ca)] [] := by  first | (simp [entryFrame, mkF, argsToLocals, Value.category, maxLocals]; done) | rfl
def Q_rm_init1_3_0 (Z : State) (G1 : Int32) (a5 : Addr) (ca : Addr) (kc : ClassId) (cc0 : Int32) (cc1 : Int32) (cc2 : Int32) (h0 : Heap) (n0 : Nat) (v : Option Value) (h : Heap) (L : List Loc) : Prop := ∃ (t : Addr) (kt : ClassId), (v = none) ∧ (Fr n0 L) ∧ (Keep h0 h [a5]) ∧ (h0.size ≤ t) ∧ (Fld Z h a5 "java/lang/String" "coder" "B" (.int (1 : Int32))) ∧ (Fld Z h a5 "java/lang/String" "value" "[B" (.ref t)) ∧ (Arv Z h t kt .byte (6 : Int32) [(.int (own_lo cc0)), (.int (own_hi cc0)), (.int (own_lo cc1)), (.int (own_hi cc1)), (.int (own_lo cc2)), (.int (own_hi cc2))] (.int (0 : Int32)))
set_option maxRecDepth 65536 in
set_option maxHeartbeats 40000000 in
theorem rm_init1_3_0 (l : Launch) (Z : State) (a0 : Array Value) (hw : ∀ d ∈ tables_1, d.before a0 Z = true) (ws : List Jvm.Cond) (G1 : Int32) (a5 : Addr) (ca : Addr) (kc : ClassId) (cc0 : Int32) (cc1 : Int32) (cc2 : Int32) (h0 : Heap) (n0 : Nat) (Z0 : n0 ≤ h0.size) (O2 : Sta Z Z.heap "java/lang/String" "COMPACT_STRINGS" "Z" (.int G1)) (P5 : ¬ G1 = 0) (SA : Sta Z Z.heap "java/lang/StringUTF16" "$assertionsDisabled" "Z" (.int 1)) (SH : Sta Z Z.heap "java/lang/StringUTF16" "HI_BYTE_SHIFT" "I" (.int 0)) (SL : Sta Z Z.heap "java/lang/StringUTF16" "LO_BYTE_SHIFT" "I" (.int 8)) (f5 : Exa Z h0 a5 "java/lang/String") (f6 : Fld Z h0 a5 "java/lang/String" "coder" "B" (.int (0 : Int32))) (f7 : Fld Z h0 a5 "java/lang/String" "value" "[B" .null) (f8 : Arv Z h0 ca kc .char (3 : Int32) [(.int cc0), (.int cc1), (.int cc2)] (.int (0 : Int32))) (ga : n0 ≤ a5) (nca : a5 ≠ ca) (hx0 : (255 : Int32) < cc0) (hn0 : ¬ cc0 < 0) (hm0 : ¬ (65535 : Int32) < cc0) (Old0 : OldL Z n0 h0) :
    MetFree l (⟨"java/lang/String", "<init>", "([C)V"⟩ : MethodName) (head1 (Jvm.Cond.code (⟨"java/lang/String", "<init>", "([C)V"⟩ : MethodName) jdk_42_method_3_code 2 none :: ws) ({ frames := 5, cells := 2, slots := 9, locals := 74 } : Room)) (fun a U => a = #[(.ref a5), (.ref ca)] ∧ Z.Warmed39 U.vm ∧ U.heap = h0) (fun _ _ _ _ _ => True) (fun _ U o U' => ∃ v L, o = .returned v ∧ Q_rm_init1_3_0 Z G1 a5 ca kc cc0 cc1 cc2 h0 n0 v U'.heap L ∧ FrameEnd U o U' L ({ frames := 5, cells := 2, slots := 9, locals := 74 } : Room).cells ({ frames := 5, cells := 2, slots := 9, locals := 74 } : Room).slots) := by
  refine MetFree.of_bodySF (plainFor_of_name pn_java_lang_String) hisR ?_
  intro p e s m args below meth c s₁ Bd hml0 hP hK
  obtain ⟨rfl, hZ, hh⟩ := hP
  have hx := Bd.exec
  have hby := Bd.bytes
  have hml : c.maxLocals = 2 := hml0
  have hown : s.vm.findClass "java/lang/String" = some m.cls := findClass_of_methodNamed Bd.named
  have hnm := (name_of_methodNamed Bd.named Bd.method).1
  have X0 : Stand p l e ({ frames := 5, cells := 2, slots := 9, locals := 74 } : Room) s m #[(.ref a5), (.ref ca)] below meth c s₁ [] 0 0 := Stand.of_body Bd
  have e0 : s₁.heap = h0 := by rw [← hh, Bd.state]; rfl
  have N0 := Fr.nil n0
  have K00 : Keep h0 h0 [a5] := Keep.refl _ _
  have hlk0 : meth.locks = false := by first | assumption | exact BodyLoose.notSynchronized (by assumption) | exact Body.notSynchronized (by assumption)
  show Rch p e below s₁ (entryFrame m #[(.ref a5), (.ref ca)] 2) (FinP s (Q_rm_init1_3_0 Z G1 a5 ca kc cc0 cc1 cc2 h0 n0) 2 9)
  refine Rch.cast (ef_rm_init1_3_0 m G1 a5 ca kc cc0 cc1 cc2) ?_
  show Rch p e below s₁ (mkF m 0 #[.val (.ref a5), .val (.ref ca)] []) _
  refine w_aloadN (pc' := 1) X0 hx hby djdk42m3_0 rfl rfl rfl ?_
  refine w_aloadN (pc' := 2) X0 hx hby djdk42m3_1 rfl rfl rfl ?_
  refine w_iconst (pc' := 3) (v := 0) X0 hx hby djdk42m3_2 rfl rfl ?_
  refine w_aloadN (pc' := 4) X0 hx hby djdk42m3_3 rfl rfl rfl ?_
  refine Rch.st (fun _ k => own_alen X0 hx hZ e0 f8 rfl rfl (hb hby djdk42m3_4) k) ?_
  show Rch p e below s₁ (mkF m 5 #[.val (.ref a5), .val (.ref ca)] [(.int (3 : Int32)), (.int (0 : Int32)), (.ref ca), (.ref a5)]) _
  refine w_aconstNull (pc' := 6) X0 hx hby djdk42m3_5 rfl ?_
  obtain ⟨_, _, ⟨T663, L663, k663, n663⟩, -, X663, ⟨Lc663, hQ663, l663, y663, z663⟩, st663⟩ := X0.specialBack hx (y := (⟨"java/lang/String", "<init>", "([CIILjava/lang/Void;)V"⟩ : MethodName)) rfl hown (mvT hZ (hw _ (List.mem_of_getElem? (i := 8) rfl))) (mvT hZ (hw _ (List.mem_of_getElem? (i := 9) rfl))) (mvT hZ (hw _ (List.mem_of_getElem? (i := 11) rfl))) (by decide) (backOf (W := 0) (rm_init4_3_0 l Z a0 hw [] G1 a5 ca kc cc0 cc1 cc2 h0 n0 Z0 (O2) (P5) (SA) (SH) (SL) f5 f6 f7 f8 (ga) (nca) (hx0) (hn0) (hm0) Old0) hZ (hw _ (List.mem_of_getElem? (i := 11) rfl)) (hw _ (List.mem_of_getElem? (i := 4) rfl)) (by decide) (by decide)) (g := (mkF m 6 #[.val (.ref a5), .val (.ref ca)] [.null, (.int (3 : Int32)), (.int (0 : Int32)), (.ref ca), (.ref a5)])) rfl (by rw [hml]; rfl) (Steps.refl _) (a := a5) (argsL := [(.ref ca), (.int (0 : Int32)), (.int (3 : Int32)), .null]) (rest := []) (lenOf pd___CIILjava_lang_Void__V rfl) rfl (by show 2 * 0 + _ ≤ _; exact Nat.le_of_eq rfl) (hb hby djdk42m3_6) (fun _ _ => ⟨rfl, e0, (by decide : 0 + 2 ≤ _), (by decide : 0 + 9 ≤ _)⟩)
  dsimp only [Pt.U, Pt.locs, Pt.cells, Pt.slots] at X663 l663 y663 z663 st663 hQ663
  subst l663 y663 z663
  obtain ⟨t_663, kt_663, rfl, NQ663, K663, pq663_0, fq663_0, fq663_1, fq663_2⟩ := hQ663
  have N664 := Fr.app N0 NQ663
  have ne665 : a5 ≠ t_663 := Nat.ne_of_lt (Nat.lt_of_lt_of_le f5.lt pq663_0)
  have ne666 : ca ≠ t_663 := Nat.ne_of_lt (Nat.lt_of_lt_of_le f8.lt pq663_0)
  have ge667 : n0 ≤ t_663 := Nat.le_trans Z0 pq663_0
  have f668 : Exa Z T663.heap a5 "java/lang/String" := f5.keep K663
  have f669 : Arv Z T663.heap ca kc .char (3 : Int32) [(.int cc0), (.int cc1), (.int cc2)] (.int (0 : Int32)) := f8.keep K663 (ninS (Ne.symm nca) nin0)
  have Old670 := Old0.keep K663 (allS ga all0)
  have Kp671 : Keep h0 T663.heap [a5] := K00.trans K663 (allS (Or.inl (List.mem_of_getElem? (i := 0) rfl)) all0)
  have Z672 := Nat.le_trans Z0 K663.1
  refine Rch.st (fun _ k => st663.trans k) ?_
  show Rch p e below T663 (mkF m 9 #[.val (.ref a5), .val (.ref ca)] []) _
  exact Rch.ret0 X663 hx Bd.returns (hb hby djdk42m3_9) (by rw [(rfl : T663.heap = T663.heap)]; exact ⟨t_663, kt_663, rfl, N664, Kp671, (Nat.le_trans K00.1 pq663_0), fq663_0, fq663_1, fq663_2⟩) (by decide) (by decide)

theorem ef_rm_cmp5_3_1 (m : MethodId) (ca : Addr) (kc : ClassId) (bd : Addr) (kd : ClassId) (cc0 : Int32) (cc1 : Int32) (cc2 : Int32)  : entryFrame m #[(.ref ca), (.int (0 : Int32)), (.ref bd), (.int (0 : Int32)), (.int (3 : Int32))] 7 = mkF m 0 #[.val (.ref ca), .val (.int (0 : Int32)), .val (.ref bd), .val (.int (0 : Int32)), .val (.int (3 : Int32)), .unset, .unset] [] := by  first | (simp [entryFrame, mkF, argsToLocals, Value.category, maxLocals]; done) | rfl
def Q_rm_cmp5_3_1 (Z : State) (ca : Addr) (kc : ClassId) (bd : Addr) (kd : ClassId) (cc0 : Int32) (cc1 : Int32) (cc2 : Int32) (h0 : Heap) (n0 : Nat) (v : Option Value) (h : Heap) (L : List Loc) : Prop := (v = some (.int (1 : Int32))) ∧ (Fr n0 L) ∧ (Keep h0 h [bd])
set_option maxRecDepth 65536 in
set_option maxHeartbeats 40000000 in
theorem rm_cmp5_3_1 (l : Launch) (Z : State) (a0 : Array Value) (hw : ∀ d ∈ tables_1, d.before a0 Z = true) (ws : List Jvm.Cond) (ca : Addr) (kc : ClassId) (bd : Addr) (kd : ClassId) (cc0 : Int32) (cc1 : Int32) (cc2 : Int32) (h0 : Heap) (n0 : Nat) (Z0 : n0 ≤ h0.size) (f0 : Arv Z h0 ca kc .char (3 : Int32) [(.int cc0), (.int cc1), (.int cc2)] (.int (0 : Int32))) (f1 : Arv Z h0 bd kd .byte (3 : Int32) [(.int (0 : Int32)), (.int (0 : Int32)), (.int (0 : Int32))] (.int (0 : Int32))) (gd : n0 ≤ bd) (ncd : ca ≠ bd) (hg0 : ¬ (255 : Int32) < cc0) (hx1 : (255 : Int32) < cc1) :
    MetFree l (⟨"java/lang/StringUTF16", "compress", "([CI[BII)I"⟩ : MethodName) (head1 (Jvm.Cond.code (⟨"java/lang/StringUTF16", "compress", "([CI[BII)I"⟩ : MethodName) jdk_52_method_21_code 7 (some .int) :: ws) ({ frames := 0, cells := 0, slots := 0, locals := 0 } : Room)) (fun a U => a = #[(.ref ca), (.int (0 : Int32)), (.ref bd), (.int (0 : Int32)), (.int (3 : Int32))] ∧ Z.Warmed39 U.vm ∧ U.heap = h0) (fun _ _ _ _ _ => True) (fun _ U o U' => ∃ v L, o = .returned v ∧ Q_rm_cmp5_3_1 Z ca kc bd kd cc0 cc1 cc2 h0 n0 v U'.heap L ∧ FrameEnd U o U' L ({ frames := 0, cells := 0, slots := 0, locals := 0 } : Room).cells ({ frames := 0, cells := 0, slots := 0, locals := 0 } : Room).slots) := by
  refine MetFree.of_bodySF (plainFor_of_name pn_java_lang_StringUTF16) hisR ?_
  intro p e s m args below meth c s₁ Bd hml0 hP hK
  obtain ⟨rfl, hZ, hh⟩ := hP
  have hx := Bd.exec
  have hby := Bd.bytes
  have hml : c.maxLocals = 7 := hml0
  have hown : s.vm.findClass "java/lang/StringUTF16" = some m.cls := findClass_of_methodNamed Bd.named
  have hnm := (name_of_methodNamed Bd.named Bd.method).1
  have X0 : Stand p l e ({ frames := 0, cells := 0, slots := 0, locals := 0 } : Room) s m #[(.ref ca), (.int (0 : Int32)), (.ref bd), (.int (0 : Int32)), (.int (3 : Int32))] below meth c s₁ [] 0 0 := Stand.of_body Bd
  have e0 : s₁.heap = h0 := by rw [← hh, Bd.state]; rfl
  have N0 := Fr.nil n0
  have K00 : Keep h0 h0 [bd] := Keep.refl _ _
  have hlk0 : meth.locks = false := by first | assumption | exact BodyLoose.notSynchronized (by assumption) | exact Body.notSynchronized (by assumption)
  show Rch p e below s₁ (entryFrame m #[(.ref ca), (.int (0 : Int32)), (.ref bd), (.int (0 : Int32)), (.int (3 : Int32))] 7) (FinP s (Q_rm_cmp5_3_1 Z ca kc bd kd cc0 cc1 cc2 h0 n0) 0 0)
  refine Rch.cast (ef_rm_cmp5_3_1 m ca kc bd kd cc0 cc1 cc2) ?_
  show Rch p e below s₁ (mkF m 0 #[.val (.ref ca), .val (.int (0 : Int32)), .val (.ref bd), .val (.int (0 : Int32)), .val (.int (3 : Int32)), .unset, .unset] []) _
  refine w_iconst (pc' := 1) (v := 0) X0 hx hby djdk52m21_0 rfl rfl ?_
  refine w_istore (pc' := 3) (l' := #[.val (.ref ca), .val (.int (0 : Int32)), .val (.ref bd), .val (.int (0 : Int32)), .val (.int (3 : Int32)), .val (.int (0 : Int32)), .unset]) X0 hx hby djdk52m21_1 rfl rfl ?_
  refine w_iload (pc' := 5) X0 hx hby djdk52m21_3 rfl rfl ?_
  refine w_iload (pc' := 7) X0 hx hby djdk52m21_5 rfl rfl ?_
  refine w_icmpNo (pc' := 10) X0 hx hby djdk52m21_7 (XT.ii_ge_f (by decide)) rfl ?_
  refine w_aloadN (pc' := 11) X0 hx hby djdk52m21_10 rfl rfl rfl ?_
  refine w_iloadN (pc' := 12) X0 hx hby djdk52m21_11 rfl rfl ?_
  refine Rch.st (fun _ k => own_ldC X0 hx hZ e0 f0 (j := (0 : Int32)) ⟨by decide, by decide⟩ (by rfl) rfl rfl (hb hby djdk52m21_12) k) ?_
  show Rch p e below s₁ (mkF m 13 #[.val (.ref ca), .val (.int (0 : Int32)), .val (.ref bd), .val (.int (0 : Int32)), .val (.int (3 : Int32)), .val (.int (0 : Int32)), .unset] [(.int cc0)]) _
  refine w_istore (pc' := 15) (l' := #[.val (.ref ca), .val (.int (0 : Int32)), .val (.ref bd), .val (.int (0 : Int32)), .val (.int (3 : Int32)), .val (.int (0 : Int32)), .val (.int cc0)]) X0 hx hby djdk52m21_13 rfl rfl ?_
  refine w_iload (pc' := 17) X0 hx hby djdk52m21_15 rfl rfl ?_
  refine w_sipush (pc' := 20) (v := 255) X0 hx hby djdk52m21_17 rfl rfl ?_
  refine w_icmpYes (pc' := 26) X0 hx hby djdk52m21_20 (XT.ii_le_t (hg0)) (by decide) ?_
  refine w_aloadN (pc' := 27) X0 hx hby djdk52m21_26 rfl rfl rfl ?_
  refine w_iloadN (pc' := 28) X0 hx hby djdk52m21_27 rfl rfl ?_
  refine w_iload (pc' := 30) X0 hx hby djdk52m21_28 rfl rfl ?_
  refine w_i2b (pc' := 31) X0 hx hby djdk52m21_30 rfl ?_
  obtain ⟨T673, h673, X673, e673, W673, V673, st673⟩ := own_stB X0 hx hZ e0 f1 (j := (0 : Int32)) ⟨by decide, by decide⟩ 0 (by decide) (by decide : 0 < 3) (g := (mkF m 31 #[.val (.ref ca), .val (.int (0 : Int32)), .val (.ref bd), .val (.int (0 : Int32)), .val (.int (3 : Int32)), .val (.int (0 : Int32)), .val (.int cc0)] [(.int (cc0).toInt8.toInt32), (.int (0 : Int32)), (.ref bd)])) rfl rfl (hb hby djdk52m21_31)
  have N674 := Fr.snoc X673 N0 gd
  have f675 : Arv Z h673 ca kc .char (3 : Int32) [(.int cc0), (.int cc1), (.int cc2)] (.int (0 : Int32)) := f0.other W673 ncd
  have Z676 := Nat.le_trans Z0 (Keep.of_wr W673).1
  have Kp677 : Keep h0 h673 [bd] := K00.wr W673 (Or.inl (List.mem_of_getElem? (i := 0) rfl))
  have f678 : Arv Z h673 bd kd .byte (3 : Int32) [(.int ((cc0).toInt8.toInt32).toInt8.toInt32), (.int (0 : Int32)), (.int (0 : Int32))] (.int (0 : Int32)) := V673
  refine Rch.st (fun _ k => st673 _ k) ?_
  show Rch p e below T673 (mkF m 32 #[.val (.ref ca), .val (.int (0 : Int32)), .val (.ref bd), .val (.int (0 : Int32)), .val (.int (3 : Int32)), .val (.int (0 : Int32)), .val (.int cc0)] []) _
  refine w_iinc (pc' := 35) (w := (1 : Int32)) (l' := #[.val (.ref ca), .val (.int (1 : Int32)), .val (.ref bd), .val (.int (0 : Int32)), .val (.int (3 : Int32)), .val (.int (0 : Int32)), .val (.int cc0)]) X673 hx hby djdk52m21_32 rfl (by decide) rfl rfl ?_
  refine w_iinc (pc' := 38) (w := (1 : Int32)) (l' := #[.val (.ref ca), .val (.int (1 : Int32)), .val (.ref bd), .val (.int (1 : Int32)), .val (.int (3 : Int32)), .val (.int (0 : Int32)), .val (.int cc0)]) X673 hx hby djdk52m21_35 rfl (by decide) rfl rfl ?_
  refine w_iinc (pc' := 41) (w := (1 : Int32)) (l' := #[.val (.ref ca), .val (.int (1 : Int32)), .val (.ref bd), .val (.int (1 : Int32)), .val (.int (3 : Int32)), .val (.int (1 : Int32)), .val (.int cc0)]) X673 hx hby djdk52m21_38 rfl (by decide) rfl rfl ?_
  refine w_goto (pc' := 3) X673 hx hby djdk52m21_41 (by decide) ?_
  refine w_iload (pc' := 5) X673 hx hby djdk52m21_3 rfl rfl ?_
  refine w_iload (pc' := 7) X673 hx hby djdk52m21_5 rfl rfl ?_
  refine w_icmpNo (pc' := 10) X673 hx hby djdk52m21_7 (XT.ii_ge_f (by decide)) rfl ?_
  refine w_aloadN (pc' := 11) X673 hx hby djdk52m21_10 rfl rfl rfl ?_
  refine w_iloadN (pc' := 12) X673 hx hby djdk52m21_11 rfl rfl ?_
  refine Rch.st (fun _ k => own_ldC X673 hx hZ e673 f675 (j := (1 : Int32)) ⟨by decide, by decide⟩ (by rfl) rfl rfl (hb hby djdk52m21_12) k) ?_
  show Rch p e below T673 (mkF m 13 #[.val (.ref ca), .val (.int (1 : Int32)), .val (.ref bd), .val (.int (1 : Int32)), .val (.int (3 : Int32)), .val (.int (1 : Int32)), .val (.int cc0)] [(.int cc1)]) _
  refine w_istore (pc' := 15) (l' := #[.val (.ref ca), .val (.int (1 : Int32)), .val (.ref bd), .val (.int (1 : Int32)), .val (.int (3 : Int32)), .val (.int (1 : Int32)), .val (.int cc1)]) X673 hx hby djdk52m21_13 rfl rfl ?_
  refine w_iload (pc' := 17) X673 hx hby djdk52m21_15 rfl rfl ?_
  refine w_sipush (pc' := 20) (v := 255) X673 hx hby djdk52m21_17 rfl rfl ?_
  refine w_icmpNo (pc' := 23) X673 hx hby djdk52m21_20 (XT.ii_le_f (hx1)) rfl ?_
  refine w_iload (pc' := 25) X673 hx hby djdk52m21_23 rfl rfl ?_
  exact Rch.retV X673 hx Bd.returns rfl (Or.inl ⟨rfl, by simp, _, rfl⟩) (hb hby djdk52m21_25) (by rw [e673]; exact ⟨rfl, N674, Kp677⟩) (by decide) (by decide)

theorem ef_rm_cmp3_3_1 (m : MethodId) (ca : Addr) (kc : ClassId) (cc0 : Int32) (cc1 : Int32) (cc2 : Int32)  : entryFrame m #[(.ref ca), (.int (0 : Int32)), (.int (3 : Int32))] 6 = mkF m 0 #[.val (.ref ca), .val (.int (0 : Int32)), .val (.int (3 : Int32)), .unset, .unset, .unset] [] := by  first | (simp [entryFrame, mkF, argsToLocals, Value.category, maxLocals]; done) | rfl
def Q_rm_cmp3_3_1 (Z : State) (ca : Addr) (kc : ClassId) (cc0 : Int32) (cc1 : Int32) (cc2 : Int32) (h0 : Heap) (n0 : Nat) (v : Option Value) (h : Heap) (L : List Loc) : Prop := ∃ (t : Addr) (kt : ClassId), (v = some (.ref t)) ∧ (Fr n0 L) ∧ (Keep h0 h []) ∧ (h0.size ≤ t) ∧ (Arv Z h t kt .byte (6 : Int32) [(.int (own_lo cc0)), (.int (own_hi cc0)), (.int (own_lo cc1)), (.int (own_hi cc1)), (.int (own_lo cc2)), (.int (own_hi cc2))] (.int (0 : Int32)))
set_option maxRecDepth 65536 in
set_option maxHeartbeats 40000000 in
theorem rm_cmp3_3_1 (l : Launch) (Z : State) (a0 : Array Value) (hw : ∀ d ∈ tables_1, d.before a0 Z = true) (ws : List Jvm.Cond) (ca : Addr) (kc : ClassId) (cc0 : Int32) (cc1 : Int32) (cc2 : Int32) (h0 : Heap) (n0 : Nat) (Z0 : n0 ≤ h0.size) (SA : Sta Z Z.heap "java/lang/StringUTF16" "$assertionsDisabled" "Z" (.int 1)) (SH : Sta Z Z.heap "java/lang/StringUTF16" "HI_BYTE_SHIFT" "I" (.int 0)) (SL : Sta Z Z.heap "java/lang/StringUTF16" "LO_BYTE_SHIFT" "I" (.int 8)) (f3 : Arv Z h0 ca kc .char (3 : Int32) [(.int cc0), (.int cc1), (.int cc2)] (.int (0 : Int32))) (hg0 : ¬ (255 : Int32) < cc0) (hx1 : (255 : Int32) < cc1) (hn1 : ¬ cc1 < 0) (hm1 : ¬ (65535 : Int32) < cc1) (Old0 : OldL Z n0 h0) :
    MetFree l (⟨"java/lang/StringUTF16", "compress", "([CII)[B"⟩ : MethodName) (head1 (Jvm.Cond.code (⟨"java/lang/StringUTF16", "compress", "([CII)[B"⟩ : MethodName) jdk_52_method_16_code 6 (some (.array .byte)) :: ws) ({ frames := 3, cells := 2, slots := 9, locals := 40 } : Room)) (fun a U => a = #[(.ref ca), (.int (0 : Int32)), (.int (3 : Int32))] ∧ Z.Warmed39 U.vm ∧ U.heap = h0) (fun _ _ _ _ _ => True) (fun _ U o U' => ∃ v L, o = .returned v ∧ Q_rm_cmp3_3_1 Z ca kc cc0 cc1 cc2 h0 n0 v U'.heap L ∧ FrameEnd U o U' L ({ frames := 3, cells := 2, slots := 9, locals := 40 } : Room).cells ({ frames := 3, cells := 2, slots := 9, locals := 40 } : Room).slots) := by
  refine MetFree.of_bodySF (plainFor_of_name pn_java_lang_StringUTF16) hisR ?_
  intro p e s m args below meth c s₁ Bd hml0 hP hK
  obtain ⟨rfl, hZ, hh⟩ := hP
  have hx := Bd.exec
  have hby := Bd.bytes
  have hml : c.maxLocals = 6 := hml0
  have hown : s.vm.findClass "java/lang/StringUTF16" = some m.cls := findClass_of_methodNamed Bd.named
  have hnm := (name_of_methodNamed Bd.named Bd.method).1
  have X0 : Stand p l e ({ frames := 3, cells := 2, slots := 9, locals := 40 } : Room) s m #[(.ref ca), (.int (0 : Int32)), (.int (3 : Int32))] below meth c s₁ [] 0 0 := Stand.of_body Bd
  have e0 : s₁.heap = h0 := by rw [← hh, Bd.state]; rfl
  have N0 := Fr.nil n0
  have K00 : Keep h0 h0 [] := Keep.refl _ _
  have hlk0 : meth.locks = false := by first | assumption | exact BodyLoose.notSynchronized (by assumption) | exact Body.notSynchronized (by assumption)
  show Rch p e below s₁ (entryFrame m #[(.ref ca), (.int (0 : Int32)), (.int (3 : Int32))] 6) (FinP s (Q_rm_cmp3_3_1 Z ca kc cc0 cc1 cc2 h0 n0) 2 9)
  refine Rch.cast (ef_rm_cmp3_3_1 m ca kc cc0 cc1 cc2) ?_
  show Rch p e below s₁ (mkF m 0 #[.val (.ref ca), .val (.int (0 : Int32)), .val (.int (3 : Int32)), .unset, .unset, .unset] []) _
  refine w_iloadN (pc' := 1) X0 hx hby djdk52m16_0 rfl rfl ?_
  obtain ⟨T679, h679, kc679, X679, e679, E679, A679, st679⟩ := newP X0 hx hZ (hw _ (List.mem_of_getElem? (i := 16) rfl)) e0 (g := (mkF m 1 #[.val (.ref ca), .val (.int (0 : Int32)), .val (.int (3 : Int32)), .unset, .unset, .unset] [(.int (3 : Int32))])) rfl (hb hby djdk52m16_1) rfl (by decide : ¬ ((3 : Int32) < (0 : Int32))) (cap := 3) (by decide : (3 : Int32).toNatClampNeg ≤ 3) (by decide) (by decide) (by decide)
  obtain ⟨a679, g679⟩ : ∃ z, z = h0.size := ⟨_, rfl⟩
  rw [← g679] at A679 st679
  have ne680 : ca ≠ a679 := by rw [g679]; exact Nat.ne_of_lt f3.lt
  have ge681 : n0 ≤ a679 := Nat.le_trans Z0 (Nat.le_of_eq g679.symm)
  have f683 : Arv Z h679 ca kc .char (3 : Int32) [(.int cc0), (.int cc1), (.int cc2)] (.int (0 : Int32)) := f3.ext E679
  have Old684 := Old0.ext E679
  have Z685 := Nat.le_trans Z0 E679.1
  have Kp686 : Keep h0 h679 [] := K00.ext E679
  have f687 : Arv Z h679 a679 kc679 .byte (3 : Int32) [(.int (0 : Int32)), (.int (0 : Int32)), (.int (0 : Int32))] (.int (0 : Int32)) := (Arv.new A679 (by decide : ¬ ((3 : Int32) < (0 : Int32)))).pad (pad_rep [] (.int (0 : Int32)) 3)
  refine Rch.st (fun _ k => st679 _ k) ?_
  show Rch p e below T679 (mkF m 3 #[.val (.ref ca), .val (.int (0 : Int32)), .val (.int (3 : Int32)), .unset, .unset, .unset] [(.ref a679)]) _
  refine w_astoreN (pc' := 4) (l' := #[.val (.ref ca), .val (.int (0 : Int32)), .val (.int (3 : Int32)), .val (.ref a679), .unset, .unset]) X679 hx hby djdk52m16_3 rfl rfl rfl ?_
  refine w_aloadN (pc' := 5) X679 hx hby djdk52m16_4 rfl rfl rfl ?_
  refine w_iloadN (pc' := 6) X679 hx hby djdk52m16_5 rfl rfl ?_
  refine w_aloadN (pc' := 7) X679 hx hby djdk52m16_6 rfl rfl rfl ?_
  refine w_iconst (pc' := 8) (v := 0) X679 hx hby djdk52m16_7 rfl rfl ?_
  refine w_iloadN (pc' := 9) X679 hx hby djdk52m16_8 rfl rfl ?_
  obtain ⟨_, _, ⟨T688, L688, k688, n688⟩, -, X688, ⟨Lc688, hQ688, l688, y688, z688⟩, st688⟩ := Jvm.LawKit.callS X679 hx (y := (⟨"java/lang/StringUTF16", "compress", "([CI[BII)I"⟩ : MethodName)) hown (mvT hZ (hw _ (List.mem_of_getElem? (i := 54) rfl))) (mvT hZ (hw _ (List.mem_of_getElem? (i := 55) rfl))) (mvT hZ (hw _ (List.mem_of_getElem? (i := 52) rfl))) (mvT hZ (hw _ (List.mem_of_getElem? (i := 56) rfl))) (by decide) (backOf (W := 0) (rm_cmp5_3_1 l Z a0 hw [] ca kc a679 kc679 cc0 cc1 cc2 h679 n0 Z685 f683 f687 (ge681) (ne680) (hg0) (hx1)) hZ (hw _ (List.mem_of_getElem? (i := 56) rfl)) (hw _ (List.mem_of_getElem? (i := 52) rfl)) (by decide) (by decide)) (g := (mkF m 9 #[.val (.ref ca), .val (.int (0 : Int32)), .val (.int (3 : Int32)), .val (.ref a679), .unset, .unset] [(.int (3 : Int32)), (.int (0 : Int32)), (.ref a679), (.int (0 : Int32)), (.ref ca)])) rfl (by rw [hml]; rfl) (argsL := [(.ref ca), (.int (0 : Int32)), (.ref a679), (.int (0 : Int32)), (.int (3 : Int32))]) (rest := []) (lenOf pd___CI_BII_I rfl) rfl (by show 2 * 0 + _ ≤ _; exact Nat.le_of_eq rfl) (hb hby djdk52m16_9) (fun _ _ => ⟨rfl, e679, (by decide : 1 + 0 ≤ _), (by decide : 3 + 0 ≤ _)⟩)
  dsimp only [Pt.U, Pt.locs, Pt.cells, Pt.slots] at X688 l688 y688 z688 st688 hQ688
  subst l688 y688 z688
  obtain ⟨rfl, NQ688, K688⟩ := hQ688
  have N689 := Fr.app N0 NQ688
  have f690 : Arv Z T688.heap ca kc .char (3 : Int32) [(.int cc0), (.int cc1), (.int cc2)] (.int (0 : Int32)) := f683.keep K688 (ninS ne680 nin0)
  have Old691 := Old684.keep K688 (allS ge681 all0)
  have Kp692 : Keep h0 T688.heap [] := Kp686.trans K688 (allS (Or.inr (Nat.le_trans K00.1 (Nat.le_of_eq g679.symm))) all0)
  have Z693 := Nat.le_trans Z685 K688.1
  refine Rch.st (fun _ k => st688 _ k) ?_
  show Rch p e below T688 (mkF m 12 #[.val (.ref ca), .val (.int (0 : Int32)), .val (.int (3 : Int32)), .val (.ref a679), .unset, .unset] [(.int (1 : Int32))]) _
  refine w_istore (pc' := 14) (l' := #[.val (.ref ca), .val (.int (0 : Int32)), .val (.int (3 : Int32)), .val (.ref a679), .val (.int (1 : Int32)), .unset]) X688 hx hby djdk52m16_12 rfl rfl ?_
  refine w_iload (pc' := 16) X688 hx hby djdk52m16_14 rfl rfl ?_
  refine w_iloadN (pc' := 17) X688 hx hby djdk52m16_16 rfl rfl ?_
  refine w_icmpNo (pc' := 20) X688 hx hby djdk52m16_17 (XT.ii_eq_f (by decide)) rfl ?_
  refine w_aloadN (pc' := 21) X688 hx hby djdk52m16_20 rfl rfl rfl ?_
  refine w_iloadN (pc' := 22) X688 hx hby djdk52m16_21 rfl rfl ?_
  refine w_iloadN (pc' := 23) X688 hx hby djdk52m16_22 rfl rfl ?_
  obtain ⟨_, _, ⟨T694, L694, k694, n694⟩, -, X694, ⟨Lc694, hQ694, l694, y694, z694⟩, st694⟩ := Jvm.LawKit.callS X688 hx (y := (⟨"java/lang/StringUTF16", "toBytes", "([CII)[B"⟩ : MethodName)) hown (mvT hZ (hw _ (List.mem_of_getElem? (i := 64) rfl))) (mvT hZ (hw _ (List.mem_of_getElem? (i := 65) rfl))) (mvT hZ (hw _ (List.mem_of_getElem? (i := 52) rfl))) (mvT hZ (hw _ (List.mem_of_getElem? (i := 66) rfl))) (by decide) (backOf (W := 0) (rm_tob_3 l Z a0 hw [] ca kc cc0 cc1 cc2 T688.heap n0 Z693 (SA) (SH) (SL) f690 Old691) hZ (hw _ (List.mem_of_getElem? (i := 66) rfl)) (hw _ (List.mem_of_getElem? (i := 52) rfl)) (by decide) (by decide)) (g := (mkF m 23 #[.val (.ref ca), .val (.int (0 : Int32)), .val (.int (3 : Int32)), .val (.ref a679), .val (.int (1 : Int32)), .unset] [(.int (3 : Int32)), (.int (0 : Int32)), (.ref ca)])) rfl (by rw [hml]; rfl) (argsL := [(.ref ca), (.int (0 : Int32)), (.int (3 : Int32))]) (rest := []) (lenOf pd___CII__B rfl) rfl (by show 2 * 0 + _ ≤ _; exact Nat.le_of_eq rfl) (hb hby djdk52m16_23) (fun _ _ => ⟨rfl, (rfl : T688.heap = T688.heap), (by decide : 1 + 1 ≤ _), (by decide : 3 + 6 ≤ _)⟩)
  dsimp only [Pt.U, Pt.locs, Pt.cells, Pt.slots] at X694 l694 y694 z694 st694 hQ694
  subst l694 y694 z694
  obtain ⟨t_694, kt_694, rfl, NQ694, K694, pq694_0, fq694_0⟩ := hQ694
  have N695 := Fr.app N689 NQ694
  have ne696 : ca ≠ t_694 := Nat.ne_of_lt (Nat.lt_of_lt_of_le f690.lt pq694_0)
  have ge697 : n0 ≤ t_694 := Nat.le_trans Z693 pq694_0
  have f698 : Arv Z T694.heap ca kc .char (3 : Int32) [(.int cc0), (.int cc1), (.int cc2)] (.int (0 : Int32)) := f690.keep K694 nin0
  have Old699 := Old691.keep K694 all0
  have Kp700 : Keep h0 T694.heap [] := Kp692.trans K694 all0
  have Z701 := Nat.le_trans Z693 K694.1
  refine Rch.st (fun _ k => st694 _ k) ?_
  show Rch p e below T694 (mkF m 26 #[.val (.ref ca), .val (.int (0 : Int32)), .val (.int (3 : Int32)), .val (.ref a679), .val (.int (1 : Int32)), .unset] [(.ref t_694)]) _
  refine w_astore (pc' := 28) (l' := #[.val (.ref ca), .val (.int (0 : Int32)), .val (.int (3 : Int32)), .val (.ref a679), .val (.int (1 : Int32)), .val (.ref t_694)]) X694 hx hby djdk52m16_26 rfl rfl rfl ?_
  refine w_aload (pc' := 30) X694 hx hby djdk52m16_28 rfl rfl rfl ?_
  refine w_iload (pc' := 32) X694 hx hby djdk52m16_30 rfl rfl ?_
  obtain ⟨_, _, ⟨T702, L702, k702, n702⟩, -, X702, ⟨Lc702, hQ702, l702, y702, z702⟩, st702⟩ := Jvm.LawKit.callS X694 hx (y := (⟨"java/lang/StringUTF16", "getChar", "([BI)C"⟩ : MethodName)) hown (mvT hZ (hw _ (List.mem_of_getElem? (i := 80) rfl))) (mvT hZ (hw _ (List.mem_of_getElem? (i := 81) rfl))) (mvT hZ (hw _ (List.mem_of_getElem? (i := 52) rfl))) (mvT hZ (hw _ (List.mem_of_getElem? (i := 82) rfl))) (by decide) (backOf (W := 0) (rm_get_1 l Z a0 hw [] t_694 kt_694 (6 : Int32) ([(.int (own_lo cc0)), (.int (own_hi cc0)), (.int (own_lo cc1)), (.int (own_hi cc1)), (.int (own_lo cc2)), (.int (own_hi cc2))]) (.int (0 : Int32)) (own_lo cc1) (own_hi cc1) T694.heap n0 Z701 (SA) (SH) (SL) fq694_0 (by decide) (by decide) (rfl) (rfl) Old699) hZ (hw _ (List.mem_of_getElem? (i := 82) rfl)) (hw _ (List.mem_of_getElem? (i := 52) rfl)) (by decide) (by decide)) (g := (mkF m 32 #[.val (.ref ca), .val (.int (0 : Int32)), .val (.int (3 : Int32)), .val (.ref a679), .val (.int (1 : Int32)), .val (.ref t_694)] [(.int (1 : Int32)), (.ref t_694)])) rfl (by rw [hml]; rfl) (argsL := [(.ref t_694), (.int (1 : Int32))]) (rest := []) (lenOf pd___BI_C rfl) rfl (by show 2 * 0 + _ ≤ _; exact Nat.le_of_eq rfl) (hb hby djdk52m16_32) (fun _ _ => ⟨rfl, (rfl : T694.heap = T694.heap), (by decide : 2 + 0 ≤ _), (by decide : 9 + 0 ≤ _)⟩)
  dsimp only [Pt.U, Pt.locs, Pt.cells, Pt.slots] at X702 l702 y702 z702 st702 hQ702
  subst l702 y702 z702
  obtain ⟨rfl, NQ702, K702⟩ := hQ702
  have N703 := Fr.app N695 NQ702
  refine Rch.st (fun _ k => st702 _ k) ?_
  show Rch p e below T702 (mkF m 35 #[.val (.ref ca), .val (.int (0 : Int32)), .val (.int (3 : Int32)), .val (.ref a679), .val (.int (1 : Int32)), .val (.ref t_694)] [(.int (own_gc (own_lo cc1) (own_hi cc1)))]) _
  have r704 : (own_gc (own_lo cc1) (own_hi cc1)) = cc1 := own_getput hn1 hm1
  rw [r704]
  show Rch p e below T702 (mkF m 35 #[.val (.ref ca), .val (.int (0 : Int32)), .val (.int (3 : Int32)), .val (.ref a679), .val (.int (1 : Int32)), .val (.ref t_694)] [(.int cc1)]) _
  refine w_sipush (pc' := 38) (v := 255) X702 hx hby djdk52m16_35 rfl rfl ?_
  refine w_icmpYes (pc' := 54) X702 hx hby djdk52m16_38 (XT.ii_gt_t (hx1)) (by decide) ?_
  refine w_aload (pc' := 56) X702 hx hby djdk52m16_54 rfl rfl rfl ?_
  exact Rch.retV X702 hx Bd.returns rfl (Or.inr (Or.inr (Or.inr (Or.inr ⟨rfl, rfl, rfl⟩)))) (hb hby djdk52m16_56) (by rw [K702]; exact ⟨t_694, kt_694, rfl, N703, Kp700, (Nat.le_trans Kp692.1 pq694_0), fq694_0⟩) (by decide) (by decide)

theorem ef_rm_init4_3_1 (m : MethodId) (G1 : Int32) (a5 : Addr) (ca : Addr) (kc : ClassId) (cc0 : Int32) (cc1 : Int32) (cc2 : Int32)  : entryFrame m #[(.ref a5), (.ref ca), (.int (0 : Int32)), (.int (3 : Int32)), .null] 6 = mkF m 0 #[.val (.ref a5), .val (.ref ca), .val (.int (0 : Int32)), .val (.int (3 : Int32)), .val .null, .unset] [] := by  first | (simp [entryFrame, mkF, argsToLocals, Value.category, maxLocals]; done) | rfl
def Q_rm_init4_3_1 (Z : State) (G1 : Int32) (a5 : Addr) (ca : Addr) (kc : ClassId) (cc0 : Int32) (cc1 : Int32) (cc2 : Int32) (h0 : Heap) (n0 : Nat) (v : Option Value) (h : Heap) (L : List Loc) : Prop := ∃ (t : Addr) (kt : ClassId), (v = none) ∧ (Fr n0 L) ∧ (Keep h0 h [a5]) ∧ (h0.size ≤ t) ∧ (Fld Z h a5 "java/lang/String" "coder" "B" (.int (1 : Int32))) ∧ (Fld Z h a5 "java/lang/String" "value" "[B" (.ref t)) ∧ (Arv Z h t kt .byte (6 : Int32) [(.int (own_lo cc0)), (.int (own_hi cc0)), (.int (own_lo cc1)), (.int (own_hi cc1)), (.int (own_lo cc2)), (.int (own_hi cc2))] (.int (0 : Int32)))
set_option maxRecDepth 65536 in
set_option maxHeartbeats 40000000 in
theorem rm_init4_3_1 (l : Launch) (Z : State) (a0 : Array Value) (hw : ∀ d ∈ tables_1, d.before a0 Z = true) (ws : List Jvm.Cond) (G1 : Int32) (a5 : Addr) (ca : Addr) (kc : ClassId) (cc0 : Int32) (cc1 : Int32) (cc2 : Int32) (h0 : Heap) (n0 : Nat) (Z0 : n0 ≤ h0.size) (O2 : Sta Z Z.heap "java/lang/String" "COMPACT_STRINGS" "Z" (.int G1)) (P5 : ¬ G1 = 0) (SA : Sta Z Z.heap "java/lang/StringUTF16" "$assertionsDisabled" "Z" (.int 1)) (SH : Sta Z Z.heap "java/lang/StringUTF16" "HI_BYTE_SHIFT" "I" (.int 0)) (SL : Sta Z Z.heap "java/lang/StringUTF16" "LO_BYTE_SHIFT" "I" (.int 8)) (f5 : Exa Z h0 a5 "java/lang/String") (f6 : Fld Z h0 a5 "java/lang/String" "coder" "B" (.int (0 : Int32))) (f7 : Fld Z h0 a5 "java/lang/String" "value" "[B" .null) (f8 : Arv Z h0 ca kc .char (3 : Int32) [(.int cc0), (.int cc1), (.int cc2)] (.int (0 : Int32))) (ga : n0 ≤ a5) (nca : a5 ≠ ca) (hg0 : ¬ (255 : Int32) < cc0) (hx1 : (255 : Int32) < cc1) (hn1 : ¬ cc1 < 0) (hm1 : ¬ (65535 : Int32) < cc1) (Old0 : OldL Z n0 h0) :
    MetFree l (⟨"java/lang/String", "<init>", "([CIILjava/lang/Void;)V"⟩ : MethodName) (head1 (Jvm.Cond.code (⟨"java/lang/String", "<init>", "([CIILjava/lang/Void;)V"⟩ : MethodName) jdk_42_method_149_code 6 none :: ws) ({ frames := 4, cells := 2, slots := 9, locals := 57 } : Room)) (fun a U => a = #[(.ref a5), (.ref ca), (.int (0 : Int32)), (.int (3 : Int32)), .null] ∧ Z.Warmed39 U.vm ∧ U.heap = h0) (fun _ _ _ _ _ => True) (fun _ U o U' => ∃ v L, o = .returned v ∧ Q_rm_init4_3_1 Z G1 a5 ca kc cc0 cc1 cc2 h0 n0 v U'.heap L ∧ FrameEnd U o U' L ({ frames := 4, cells := 2, slots := 9, locals := 57 } : Room).cells ({ frames := 4, cells := 2, slots := 9, locals := 57 } : Room).slots) := by
  refine MetFree.of_bodySF (plainFor_of_name pn_java_lang_String) hisR ?_
  intro p e s m args below meth c s₁ Bd hml0 hP hK
  obtain ⟨rfl, hZ, hh⟩ := hP
  have hx := Bd.exec
  have hby := Bd.bytes
  have hml : c.maxLocals = 6 := hml0
  have hown : s.vm.findClass "java/lang/String" = some m.cls := findClass_of_methodNamed Bd.named
  have hnm := (name_of_methodNamed Bd.named Bd.method).1
  have X0 : Stand p l e ({ frames := 4, cells := 2, slots := 9, locals := 57 } : Room) s m #[(.ref a5), (.ref ca), (.int (0 : Int32)), (.int (3 : Int32)), .null] below meth c s₁ [] 0 0 := Stand.of_body Bd
  have e0 : s₁.heap = h0 := by rw [← hh, Bd.state]; rfl
  have N0 := Fr.nil n0
  have K00 : Keep h0 h0 [a5] := Keep.refl _ _
  have hlk0 : meth.locks = false := by first | assumption | exact BodyLoose.notSynchronized (by assumption) | exact Body.notSynchronized (by assumption)
  show Rch p e below s₁ (entryFrame m #[(.ref a5), (.ref ca), (.int (0 : Int32)), (.int (3 : Int32)), .null] 6) (FinP s (Q_rm_init4_3_1 Z G1 a5 ca kc cc0 cc1 cc2 h0 n0) 2 9)
  refine Rch.cast (ef_rm_init4_3_1 m G1 a5 ca kc cc0 cc1 cc2) ?_
  show Rch p e below s₁ (mkF m 0 #[.val (.ref a5), .val (.ref ca), .val (.int (0 : Int32)), .val (.int (3 : Int32)), .val .null, .unset] []) _
  refine w_aloadN (pc' := 1) X0 hx hby djdk42m149_0 rfl rfl rfl ?_
  obtain ⟨T705, X705, e705, st705⟩ := initO X0 hx hZ hown (hw _ (List.mem_of_getElem? (i := 12) rfl)) (hw _ (List.mem_of_getElem? (i := 13) rfl)) (hw _ (List.mem_of_getElem? (i := 14) rfl)) e0 (g := (mkF m 1 #[.val (.ref a5), .val (.ref ca), .val (.int (0 : Int32)), .val (.int (3 : Int32)), .val .null, .unset] [(.ref a5)])) rfl (by rw [hml]; rfl) rfl (hb hby djdk42m149_1) (by decide) (W := 0) (by show 2 * 0 + _ ≤ _; exact Nat.le_of_eq rfl) (by decide)
  refine Rch.st (fun _ k => st705 _ k) ?_
  show Rch p e below T705 (mkF m 4 #[.val (.ref a5), .val (.ref ca), .val (.int (0 : Int32)), .val (.int (3 : Int32)), .val .null, .unset] []) _
  refine w_iloadN (pc' := 5) X705 hx hby djdk42m149_4 rfl rfl ?_
  refine w_ifYes (pc' := 27) X705 hx hby djdk42m149_5 (XT.i0_ne_t (by decide)) (by decide) ?_
  obtain ⟨T706, X706, e706, st706⟩ := getS X705 hx hZ hown (host := "") (hw _ (List.mem_of_getElem? (i := 48) rfl)) Via.refl e705 (O2.ext Old0.2) (g := (mkF m 27 #[.val (.ref a5), .val (.ref ca), .val (.int (0 : Int32)), .val (.int (3 : Int32)), .val .null, .unset] [])) rfl (hb hby djdk42m149_27)
  refine Rch.st (fun _ k => st706 _ k) ?_
  show Rch p e below T706 (mkF m 30 #[.val (.ref a5), .val (.ref ca), .val (.int (0 : Int32)), .val (.int (3 : Int32)), .val .null, .unset] [(.int G1)]) _
  refine w_ifNo (pc' := 33) X706 hx hby djdk42m149_30 (XT.i0_eq_f (P5)) rfl ?_
  refine w_aloadN (pc' := 34) X706 hx hby djdk42m149_33 rfl rfl rfl ?_
  refine w_iloadN (pc' := 35) X706 hx hby djdk42m149_34 rfl rfl ?_
  refine w_iloadN (pc' := 36) X706 hx hby djdk42m149_35 rfl rfl ?_
  obtain ⟨_, _, ⟨T707, L707, k707, n707⟩, -, X707, ⟨Lc707, hQ707, l707, y707, z707⟩, st707⟩ := Jvm.LawKit.callS X706 hx (y := (⟨"java/lang/StringUTF16", "compress", "([CII)[B"⟩ : MethodName)) hown (mvT hZ (hw _ (List.mem_of_getElem? (i := 50) rfl))) (mvT hZ (hw _ (List.mem_of_getElem? (i := 51) rfl))) (mvT hZ (hw _ (List.mem_of_getElem? (i := 52) rfl))) (mvT hZ (hw _ (List.mem_of_getElem? (i := 53) rfl))) (by decide) (backOf (W := 0) (rm_cmp3_3_1 l Z a0 hw [] ca kc cc0 cc1 cc2 h0 n0 Z0 (SA) (SH) (SL) f8 (hg0) (hx1) (hn1) (hm1) Old0) hZ (hw _ (List.mem_of_getElem? (i := 53) rfl)) (hw _ (List.mem_of_getElem? (i := 52) rfl)) (by decide) (by decide)) (g := (mkF m 36 #[.val (.ref a5), .val (.ref ca), .val (.int (0 : Int32)), .val (.int (3 : Int32)), .val .null, .unset] [(.int (3 : Int32)), (.int (0 : Int32)), (.ref ca)])) rfl (by rw [hml]; rfl) (argsL := [(.ref ca), (.int (0 : Int32)), (.int (3 : Int32))]) (rest := []) (lenOf pd___CII__B rfl) rfl (by show 2 * 0 + _ ≤ _; exact Nat.le_of_eq rfl) (hb hby djdk42m149_36) (fun _ _ => ⟨rfl, e706, (by decide : 0 + 2 ≤ _), (by decide : 0 + 9 ≤ _)⟩)
  dsimp only [Pt.U, Pt.locs, Pt.cells, Pt.slots] at X707 l707 y707 z707 st707 hQ707
  subst l707 y707 z707
  obtain ⟨t_707, kt_707, rfl, NQ707, K707, pq707_0, fq707_0⟩ := hQ707
  have N708 := Fr.app N0 NQ707
  have ne709 : a5 ≠ t_707 := Nat.ne_of_lt (Nat.lt_of_lt_of_le f5.lt pq707_0)
  have ne710 : ca ≠ t_707 := Nat.ne_of_lt (Nat.lt_of_lt_of_le f8.lt pq707_0)
  have ge711 : n0 ≤ t_707 := Nat.le_trans Z0 pq707_0
  have f712 : Exa Z T707.heap a5 "java/lang/String" := f5.keep K707
  have f713 : Fld Z T707.heap a5 "java/lang/String" "coder" "B" (.int (0 : Int32)) := f6.keep K707 nin0
  have f714 : Fld Z T707.heap a5 "java/lang/String" "value" "[B" .null := f7.keep K707 nin0
  have f715 : Arv Z T707.heap ca kc .char (3 : Int32) [(.int cc0), (.int cc1), (.int cc2)] (.int (0 : Int32)) := f8.keep K707 nin0
  have Old716 := Old0.keep K707 all0
  have Kp717 : Keep h0 T707.heap [a5] := K00.trans K707 all0
  have Z718 := Nat.le_trans Z0 K707.1
  refine Rch.st (fun _ k => st707 _ k) ?_
  show Rch p e below T707 (mkF m 39 #[.val (.ref a5), .val (.ref ca), .val (.int (0 : Int32)), .val (.int (3 : Int32)), .val .null, .unset] [(.ref t_707)]) _
  refine w_astore (pc' := 41) (l' := #[.val (.ref a5), .val (.ref ca), .val (.int (0 : Int32)), .val (.int (3 : Int32)), .val .null, .val (.ref t_707)]) X707 hx hby djdk42m149_39 rfl rfl rfl ?_
  refine w_aloadN (pc' := 42) X707 hx hby djdk42m149_41 rfl rfl rfl ?_
  refine w_aload (pc' := 44) X707 hx hby djdk42m149_42 rfl rfl rfl ?_
  refine w_iloadN (pc' := 45) X707 hx hby djdk42m149_44 rfl rfl ?_
  obtain ⟨_, _, ⟨T719, L719, k719, n719⟩, -, X719, ⟨Lc719, hQ719, l719, y719, z719⟩, st719⟩ := Jvm.LawKit.callS X707 hx (y := (⟨"java/lang/StringUTF16", "coderFromArrayLen", "([BI)B"⟩ : MethodName)) hown (mvT hZ (hw _ (List.mem_of_getElem? (i := 57) rfl))) (mvT hZ (hw _ (List.mem_of_getElem? (i := 58) rfl))) (mvT hZ (hw _ (List.mem_of_getElem? (i := 52) rfl))) (mvT hZ (hw _ (List.mem_of_getElem? (i := 59) rfl))) (by decide) (backOf (W := 1) (rm_cfl l Z a0 hw [] t_707 kt_707 (3 : Int32) (6 : Int32) ([(.int (own_lo cc0)), (.int (own_hi cc0)), (.int (own_lo cc1)), (.int (own_hi cc1)), (.int (own_lo cc2)), (.int (own_hi cc2))]) (.int (0 : Int32)) T707.heap n0 Z718 fq707_0) hZ (hw _ (List.mem_of_getElem? (i := 59) rfl)) (hw _ (List.mem_of_getElem? (i := 52) rfl)) (by decide) (by decide)) (g := (mkF m 45 #[.val (.ref a5), .val (.ref ca), .val (.int (0 : Int32)), .val (.int (3 : Int32)), .val .null, .val (.ref t_707)] [(.int (3 : Int32)), (.ref t_707), (.ref a5)])) rfl (by rw [hml]; rfl) (argsL := [(.ref t_707), (.int (3 : Int32))]) (rest := [(.ref a5)]) (lenOf pd___BI_B rfl) rfl (by show 2 * 0 + _ ≤ _; exact Nat.le_of_eq rfl) (hb hby djdk42m149_45) (fun _ _ => ⟨rfl, (rfl : T707.heap = T707.heap), (by decide : 2 + 0 ≤ _), (by decide : 9 + 0 ≤ _)⟩)
  dsimp only [Pt.U, Pt.locs, Pt.cells, Pt.slots] at X719 l719 y719 z719 st719 hQ719
  subst l719 y719 z719
  obtain ⟨rfl, NQ719, K719⟩ := hQ719
  have N720 := Fr.app N708 NQ719
  refine Rch.st (fun _ k => st719 _ k) ?_
  show Rch p e below T719 (mkF m 48 #[.val (.ref a5), .val (.ref ca), .val (.int (0 : Int32)), .val (.int (3 : Int32)), .val .null, .val (.ref t_707)] [(.int ((XT.ushr ((3 : Int32) - (6 : Int32)) (31 : Int32))).toInt8.toInt32), (.ref a5)]) _
  have r721 : ((XT.ushr ((3 : Int32) - (6 : Int32)) (31 : Int32))).toInt8.toInt32 = (1 : Int32) := by decide
  rw [r721]
  show Rch p e below T719 (mkF m 48 #[.val (.ref a5), .val (.ref ca), .val (.int (0 : Int32)), .val (.int (3 : Int32)), .val .null, .val (.ref t_707)] [(.int (1 : Int32)), (.ref a5)]) _
  obtain ⟨T722, h722, X722, e722, W722, st722⟩ := putF X719 hx hZ hown (host := "") (Or.inl (hw _ (List.mem_of_getElem? (i := 22) rfl))) Via.refl K719 f713 f712 (Or.inr ⟨(hw _ (List.mem_of_getElem? (i := 18) rfl)), rfl, hnm⟩) (hw _ (List.mem_of_getElem? (i := 3) rfl)) (ty := .byte) (by decide) rfl rfl (g := (mkF m 48 #[.val (.ref a5), .val (.ref ca), .val (.int (0 : Int32)), .val (.int (3 : Int32)), .val .null, .val (.ref t_707)] [(.int (1 : Int32)), (.ref a5)])) rfl rfl (hb hby djdk42m149_48)
  have N723 := Fr.snoc X722 N720 ga
  have f724 : Exa Z h722 a5 "java/lang/String" := f712.wr W722
  have f725 : Fld Z h722 a5 "java/lang/String" "coder" "B" (.int (1 : Int32)) := f713.same W722
  have f726 : Fld Z h722 a5 "java/lang/String" "value" "[B" .null := f714.other W722 (Or.inr (slot_ne (t := (.array .byte)) (t' := .byte) (Or.inr (hw _ (List.mem_of_getElem? (i := 17) rfl))) (Or.inr (hw _ (List.mem_of_getElem? (i := 18) rfl))) (by decide) (by decide) (by decide)))
  have f727 : Arv Z h722 ca kc .char (3 : Int32) [(.int cc0), (.int cc1), (.int cc2)] (.int (0 : Int32)) := f715.other W722 (Ne.symm nca)
  have f728 : Arv Z h722 t_707 kt_707 .byte (6 : Int32) [(.int (own_lo cc0)), (.int (own_hi cc0)), (.int (own_lo cc1)), (.int (own_hi cc1)), (.int (own_lo cc2)), (.int (own_hi cc2))] (.int (0 : Int32)) := fq707_0.other W722 (Ne.symm ne709)
  have Old729 := Old716.wr W722 ga
  have Z730 := Nat.le_trans Z718 (Keep.of_wr W722).1
  have Kp731 : Keep h0 h722 [a5] := Kp717.wr W722 (Or.inl (List.mem_of_getElem? (i := 0) rfl))
  refine Rch.st (fun _ k => st722 _ k) ?_
  show Rch p e below T722 (mkF m 51 #[.val (.ref a5), .val (.ref ca), .val (.int (0 : Int32)), .val (.int (3 : Int32)), .val .null, .val (.ref t_707)] []) _
  refine w_aloadN (pc' := 52) X722 hx hby djdk42m149_51 rfl rfl rfl ?_
  refine w_aload (pc' := 54) X722 hx hby djdk42m149_52 rfl rfl rfl ?_
  obtain ⟨T732, h732, X732, e732, W732, st732⟩ := putF X722 hx hZ hown (host := "") (Or.inl (hw _ (List.mem_of_getElem? (i := 21) rfl))) Via.refl e722 f726 f724 (Or.inr ⟨(hw _ (List.mem_of_getElem? (i := 17) rfl)), rfl, hnm⟩) (hw _ (List.mem_of_getElem? (i := 3) rfl)) (ty := (.array .byte)) (by decide) rfl rfl (g := (mkF m 54 #[.val (.ref a5), .val (.ref ca), .val (.int (0 : Int32)), .val (.int (3 : Int32)), .val .null, .val (.ref t_707)] [(.ref t_707), (.ref a5)])) rfl rfl (hb hby djdk42m149_54)
  have N733 := Fr.snoc X732 N723 ga
  have f734 : Exa Z h732 a5 "java/lang/String" := f724.wr W732
  have f735 : Fld Z h732 a5 "java/lang/String" "coder" "B" (.int (1 : Int32)) := f725.other W732 (Or.inr (slot_ne (t := .byte) (t' := (.array .byte)) (Or.inr (hw _ (List.mem_of_getElem? (i := 18) rfl))) (Or.inr (hw _ (List.mem_of_getElem? (i := 17) rfl))) (by decide) (by decide) (by decide)))
  have f736 : Fld Z h732 a5 "java/lang/String" "value" "[B" (.ref t_707) := f726.same W732
  have f737 : Arv Z h732 ca kc .char (3 : Int32) [(.int cc0), (.int cc1), (.int cc2)] (.int (0 : Int32)) := f727.other W732 (Ne.symm nca)
  have f738 : Arv Z h732 t_707 kt_707 .byte (6 : Int32) [(.int (own_lo cc0)), (.int (own_hi cc0)), (.int (own_lo cc1)), (.int (own_hi cc1)), (.int (own_lo cc2)), (.int (own_hi cc2))] (.int (0 : Int32)) := f728.other W732 (Ne.symm ne709)
  have Old739 := Old729.wr W732 ga
  have Z740 := Nat.le_trans Z730 (Keep.of_wr W732).1
  have Kp741 : Keep h0 h732 [a5] := Kp731.wr W732 (Or.inl (List.mem_of_getElem? (i := 0) rfl))
  refine Rch.st (fun _ k => st732 _ k) ?_
  show Rch p e below T732 (mkF m 57 #[.val (.ref a5), .val (.ref ca), .val (.int (0 : Int32)), .val (.int (3 : Int32)), .val .null, .val (.ref t_707)] []) _
  exact Rch.ret0 X732 hx Bd.returns (hb hby djdk42m149_57) (by rw [e732]; exact ⟨t_707, kt_707, rfl, N733, Kp741, (Nat.le_trans K00.1 pq707_0), f735, f736, f738⟩) (by decide) (by decide)

theorem ef_rm_init1_3_1 (m : MethodId) (G1 : Int32) (a5 : Addr) (ca : Addr) (kc : ClassId) (cc0 : Int32) (cc1 : Int32) (cc2 : Int32)  : entryFrame m #[(.ref a5), (.ref ca)] 2 = mkF m 0 #[.val (.ref a5), .val (.ref ca)] [] := by  first | (simp [entryFrame, mkF, argsToLocals, Value.category, maxLocals]; done) | rfl
def Q_rm_init1_3_1 (Z : State) (G1 : Int32) (a5 : Addr) (ca : Addr) (kc : ClassId) (cc0 : Int32) (cc1 : Int32) (cc2 : Int32) (h0 : Heap) (n0 : Nat) (v : Option Value) (h : Heap) (L : List Loc) : Prop := ∃ (t : Addr) (kt : ClassId), (v = none) ∧ (Fr n0 L) ∧ (Keep h0 h [a5]) ∧ (h0.size ≤ t) ∧ (Fld Z h a5 "java/lang/String" "coder" "B" (.int (1 : Int32))) ∧ (Fld Z h a5 "java/lang/String" "value" "[B" (.ref t)) ∧ (Arv Z h t kt .byte (6 : Int32) [(.int (own_lo cc0)), (.int (own_hi cc0)), (.int (own_lo cc1)), (.int (own_hi cc1)), (.int (own_lo cc2)), (.int (own_hi cc2))] (.int (0 : Int32)))
set_option maxRecDepth 65536 in
set_option maxHeartbeats 40000000 in
theorem rm_init1_3_1 (l : Launch) (Z : State) (a0 : Array Value) (hw : ∀ d ∈ tables_1, d.before a0 Z = true) (ws : List Jvm.Cond) (G1 : Int32) (a5 : Addr) (ca : Addr) (kc : ClassId) (cc0 : Int32) (cc1 : Int32) (cc2 : Int32) (h0 : Heap) (n0 : Nat) (Z0 : n0 ≤ h0.size) (O2 : Sta Z Z.heap "java/lang/String" "COMPACT_STRINGS" "Z" (.int G1)) (P5 : ¬ G1 = 0) (SA : Sta Z Z.heap "java/lang/StringUTF16" "$assertionsDisabled" "Z" (.int 1)) (SH : Sta Z Z.heap "java/lang/StringUTF16" "HI_BYTE_SHIFT" "I" (.int 0)) (SL : Sta Z Z.heap "java/lang/StringUTF16" "LO_BYTE_SHIFT" "I" (.int 8)) (f5 : Exa Z h0 a5 "java/lang/String") (f6 : Fld Z h0 a5 "java/lang/String" "coder" "B" (.int (0 : Int32))) (f7 : Fld Z h0 a5 "java/lang/String" "value" "[B" .null) (f8 : Arv Z h0 ca kc .char (3 : Int32) [(.int cc0), (.int cc1), (.int cc2)] (.int (0 : Int32))) (ga : n0 ≤ a5) (nca : a5 ≠ ca) (hg0 : ¬ (255 : Int32) < cc0) (hx1 : (255 : Int32) < cc1) (hn1 : ¬ cc1 < 0) (hm1 : ¬ (65535 : Int32) < cc1) (Old0 : OldL Z n0 h0) :
    MetFree l (⟨"java/lang/String", "<init>", "([C)V"⟩ : MethodName) (head1 (Jvm.Cond.code (⟨"java/lang/String", "<init>", "([C)V"⟩ : MethodName) jdk_42_method_3_code 2 none :: ws) ({ frames := 5, cells := 2, slots := 9, locals := 74 } : Room)) (fun a U => a = #[(.ref a5), (.ref ca)] ∧ Z.Warmed39 U.vm ∧ U.heap = h0) (fun _ _ _ _ _ => True) (fun _ U o U' => ∃ v L, o = .returned v ∧ Q_rm_init1_3_1 Z G1 a5 ca kc cc0 cc1 cc2 h0 n0 v U'.heap L ∧ FrameEnd U o U' L ({ frames := 5, cells := 2, slots := 9, locals := 74 } : Room).cells ({ frames := 5, cells := 2, slots := 9, locals := 74 } : Room).slots) := by
  refine MetFree.of_bodySF (plainFor_of_name pn_java_lang_String) hisR ?_
  intro p e s m args below meth c s₁ Bd hml0 hP hK
  obtain ⟨rfl, hZ, hh⟩ := hP
  have hx := Bd.exec
  have hby := Bd.bytes
  have hml : c.maxLocals = 2 := hml0
  have hown : s.vm.findClass "java/lang/String" = some m.cls := findClass_of_methodNamed Bd.named
  have hnm := (name_of_methodNamed Bd.named Bd.method).1
  have X0 : Stand p l e ({ frames := 5, cells := 2, slots := 9, locals := 74 } : Room) s m #[(.ref a5), (.ref ca)] below meth c s₁ [] 0 0 := Stand.of_body Bd
  have e0 : s₁.heap = h0 := by rw [← hh, Bd.state]; rfl
  have N0 := Fr.nil n0
  have K00 : Keep h0 h0 [a5] := Keep.refl _ _
  have hlk0 : meth.locks = false := by first | assumption | exact BodyLoose.notSynchronized (by assumption) | exact Body.notSynchronized (by assumption)
  show Rch p e below s₁ (entryFrame m #[(.ref a5), (.ref ca)] 2) (FinP s (Q_rm_init1_3_1 Z G1 a5 ca kc cc0 cc1 cc2 h0 n0) 2 9)
  refine Rch.cast (ef_rm_init1_3_1 m G1 a5 ca kc cc0 cc1 cc2) ?_
  show Rch p e below s₁ (mkF m 0 #[.val (.ref a5), .val (.ref ca)] []) _
  refine w_aloadN (pc' := 1) X0 hx hby djdk42m3_0 rfl rfl rfl ?_
  refine w_aloadN (pc' := 2) X0 hx hby djdk42m3_1 rfl rfl rfl ?_
  refine w_iconst (pc' := 3) (v := 0) X0 hx hby djdk42m3_2 rfl rfl ?_
  refine w_aloadN (pc' := 4) X0 hx hby djdk42m3_3 rfl rfl rfl ?_
  refine Rch.st (fun _ k => own_alen X0 hx hZ e0 f8 rfl rfl (hb hby djdk42m3_4) k) ?_
  show Rch p e below s₁ (mkF m 5 #[.val (.ref a5), .val (.ref ca)] [(.int (3 : Int32)), (.int (0 : Int32)), (.ref ca), (.ref a5)]) _
  refine w_aconstNull (pc' := 6) X0 hx hby djdk42m3_5 rfl ?_
  obtain ⟨_, _, ⟨T742, L742, k742, n742⟩, -, X742, ⟨Lc742, hQ742, l742, y742, z742⟩, st742⟩ := X0.specialBack hx (y := (⟨"java/lang/String", "<init>", "([CIILjava/lang/Void;)V"⟩ : MethodName)) rfl hown (mvT hZ (hw _ (List.mem_of_getElem? (i := 8) rfl))) (mvT hZ (hw _ (List.mem_of_getElem? (i := 9) rfl))) (mvT hZ (hw _ (List.mem_of_getElem? (i := 11) rfl))) (by decide) (backOf (W := 0) (rm_init4_3_1 l Z a0 hw [] G1 a5 ca kc cc0 cc1 cc2 h0 n0 Z0 (O2) (P5) (SA) (SH) (SL) f5 f6 f7 f8 (ga) (nca) (hg0) (hx1) (hn1) (hm1) Old0) hZ (hw _ (List.mem_of_getElem? (i := 11) rfl)) (hw _ (List.mem_of_getElem? (i := 4) rfl)) (by decide) (by decide)) (g := (mkF m 6 #[.val (.ref a5), .val (.ref ca)] [.null, (.int (3 : Int32)), (.int (0 : Int32)), (.ref ca), (.ref a5)])) rfl (by rw [hml]; rfl) (Steps.refl _) (a := a5) (argsL := [(.ref ca), (.int (0 : Int32)), (.int (3 : Int32)), .null]) (rest := []) (lenOf pd___CIILjava_lang_Void__V rfl) rfl (by show 2 * 0 + _ ≤ _; exact Nat.le_of_eq rfl) (hb hby djdk42m3_6) (fun _ _ => ⟨rfl, e0, (by decide : 0 + 2 ≤ _), (by decide : 0 + 9 ≤ _)⟩)
  dsimp only [Pt.U, Pt.locs, Pt.cells, Pt.slots] at X742 l742 y742 z742 st742 hQ742
  subst l742 y742 z742
  obtain ⟨t_742, kt_742, rfl, NQ742, K742, pq742_0, fq742_0, fq742_1, fq742_2⟩ := hQ742
  have N743 := Fr.app N0 NQ742
  have ne744 : a5 ≠ t_742 := Nat.ne_of_lt (Nat.lt_of_lt_of_le f5.lt pq742_0)
  have ne745 : ca ≠ t_742 := Nat.ne_of_lt (Nat.lt_of_lt_of_le f8.lt pq742_0)
  have ge746 : n0 ≤ t_742 := Nat.le_trans Z0 pq742_0
  have f747 : Exa Z T742.heap a5 "java/lang/String" := f5.keep K742
  have f748 : Arv Z T742.heap ca kc .char (3 : Int32) [(.int cc0), (.int cc1), (.int cc2)] (.int (0 : Int32)) := f8.keep K742 (ninS (Ne.symm nca) nin0)
  have Old749 := Old0.keep K742 (allS ga all0)
  have Kp750 : Keep h0 T742.heap [a5] := K00.trans K742 (allS (Or.inl (List.mem_of_getElem? (i := 0) rfl)) all0)
  have Z751 := Nat.le_trans Z0 K742.1
  refine Rch.st (fun _ k => st742.trans k) ?_
  show Rch p e below T742 (mkF m 9 #[.val (.ref a5), .val (.ref ca)] []) _
  exact Rch.ret0 X742 hx Bd.returns (hb hby djdk42m3_9) (by rw [(rfl : T742.heap = T742.heap)]; exact ⟨t_742, kt_742, rfl, N743, Kp750, (Nat.le_trans K00.1 pq742_0), fq742_0, fq742_1, fq742_2⟩) (by decide) (by decide)

theorem ef_rm_cmp5_3_2 (m : MethodId) (ca : Addr) (kc : ClassId) (bd : Addr) (kd : ClassId) (cc0 : Int32) (cc1 : Int32) (cc2 : Int32)  : entryFrame m #[(.ref ca), (.int (0 : Int32)), (.ref bd), (.int (0 : Int32)), (.int (3 : Int32))] 7 = mkF m 0 #[.val (.ref ca), .val (.int (0 : Int32)), .val (.ref bd), .val (.int (0 : Int32)), .val (.int (3 : Int32)), .unset, .unset] [] := by  first | (simp [entryFrame, mkF, argsToLocals, Value.category, maxLocals]; done) | rfl
def Q_rm_cmp5_3_2 (Z : State) (ca : Addr) (kc : ClassId) (bd : Addr) (kd : ClassId) (cc0 : Int32) (cc1 : Int32) (cc2 : Int32) (h0 : Heap) (n0 : Nat) (v : Option Value) (h : Heap) (L : List Loc) : Prop := (v = some (.int (2 : Int32))) ∧ (Fr n0 L) ∧ (Keep h0 h [bd])
set_option maxRecDepth 65536 in
set_option maxHeartbeats 40000000 in
theorem rm_cmp5_3_2 (l : Launch) (Z : State) (a0 : Array Value) (hw : ∀ d ∈ tables_1, d.before a0 Z = true) (ws : List Jvm.Cond) (ca : Addr) (kc : ClassId) (bd : Addr) (kd : ClassId) (cc0 : Int32) (cc1 : Int32) (cc2 : Int32) (h0 : Heap) (n0 : Nat) (Z0 : n0 ≤ h0.size) (f0 : Arv Z h0 ca kc .char (3 : Int32) [(.int cc0), (.int cc1), (.int cc2)] (.int (0 : Int32))) (f1 : Arv Z h0 bd kd .byte (3 : Int32) [(.int (0 : Int32)), (.int (0 : Int32)), (.int (0 : Int32))] (.int (0 : Int32))) (gd : n0 ≤ bd) (ncd : ca ≠ bd) (hg0 : ¬ (255 : Int32) < cc0) (hg1 : ¬ (255 : Int32) < cc1) (hx2 : (255 : Int32) < cc2) :
    MetFree l (⟨"java/lang/StringUTF16", "compress", "([CI[BII)I"⟩ : MethodName) (head1 (Jvm.Cond.code (⟨"java/lang/StringUTF16", "compress", "([CI[BII)I"⟩ : MethodName) jdk_52_method_21_code 7 (some .int) :: ws) ({ frames := 0, cells := 0, slots := 0, locals := 0 } : Room)) (fun a U => a = #[(.ref ca), (.int (0 : Int32)), (.ref bd), (.int (0 : Int32)), (.int (3 : Int32))] ∧ Z.Warmed39 U.vm ∧ U.heap = h0) (fun _ _ _ _ _ => True) (fun _ U o U' => ∃ v L, o = .returned v ∧ Q_rm_cmp5_3_2 Z ca kc bd kd cc0 cc1 cc2 h0 n0 v U'.heap L ∧ FrameEnd U o U' L ({ frames := 0, cells := 0, slots := 0, locals := 0 } : Room).cells ({ frames := 0, cells := 0, slots := 0, locals := 0 } : Room).slots) := by
  refine MetFree.of_bodySF (plainFor_of_name pn_java_lang_StringUTF16) hisR ?_
  intro p e s m args below meth c s₁ Bd hml0 hP hK
  obtain ⟨rfl, hZ, hh⟩ := hP
  have hx := Bd.exec
  have hby := Bd.bytes
  have hml : c.maxLocals = 7 := hml0
  have hown : s.vm.findClass "java/lang/StringUTF16" = some m.cls := findClass_of_methodNamed Bd.named
  have hnm := (name_of_methodNamed Bd.named Bd.method).1
  have X0 : Stand p l e ({ frames := 0, cells := 0, slots := 0, locals := 0 } : Room) s m #[(.ref ca), (.int (0 : Int32)), (.ref bd), (.int (0 : Int32)), (.int (3 : Int32))] below meth c s₁ [] 0 0 := Stand.of_body Bd
  have e0 : s₁.heap = h0 := by rw [← hh, Bd.state]; rfl
  have N0 := Fr.nil n0
  have K00 : Keep h0 h0 [bd] := Keep.refl _ _
  have hlk0 : meth.locks = false := by first | assumption | exact BodyLoose.notSynchronized (by assumption) | exact Body.notSynchronized (by assumption)
  show Rch p e below s₁ (entryFrame m #[(.ref ca), (.int (0 : Int32)), (.ref bd), (.int (0 : Int32)), (.int (3 : Int32))] 7) (FinP s (Q_rm_cmp5_3_2 Z ca kc bd kd cc0 cc1 cc2 h0 n0) 0 0)
  refine Rch.cast (ef_rm_cmp5_3_2 m ca kc bd kd cc0 cc1 cc2) ?_
  show Rch p e below s₁ (mkF m 0 #[.val (.ref ca), .val (.int (0 : Int32)), .val (.ref bd), .val (.int (0 : Int32)), .val (.int (3 : Int32)), .unset, .unset] []) _
  refine w_iconst (pc' := 1) (v := 0) X0 hx hby djdk52m21_0 rfl rfl ?_
  refine w_istore (pc' := 3) (l' := #[.val (.ref ca), .val (.int (0 : Int32)), .val (.ref bd), .val (.int (0 : Int32)), .val (.int (3 : Int32)), .val (.int (0 : Int32)), .unset]) X0 hx hby djdk52m21_1 rfl rfl ?_
  refine w_iload (pc' := 5) X0 hx hby djdk52m21_3 rfl rfl ?_
  refine w_iload (pc' := 7) X0 hx hby djdk52m21_5 rfl rfl ?_
  refine w_icmpNo (pc' := 10) X0 hx hby djdk52m21_7 (XT.ii_ge_f (by decide)) rfl ?_
  refine w_aloadN (pc' := 11) X0 hx hby djdk52m21_10 rfl rfl rfl ?_
  refine w_iloadN (pc' := 12) X0 hx hby djdk52m21_11 rfl rfl ?_
  refine Rch.st (fun _ k => own_ldC X0 hx hZ e0 f0 (j := (0 : Int32)) ⟨by decide, by decide⟩ (by rfl) rfl rfl (hb hby djdk52m21_12) k) ?_
  show Rch p e below s₁ (mkF m 13 #[.val (.ref ca), .val (.int (0 : Int32)), .val (.ref bd), .val (.int (0 : Int32)), .val (.int (3 : Int32)), .val (.int (0 : Int32)), .unset] [(.int cc0)]) _
  refine w_istore (pc' := 15) (l' := #[.val (.ref ca), .val (.int (0 : Int32)), .val (.ref bd), .val (.int (0 : Int32)), .val (.int (3 : Int32)), .val (.int (0 : Int32)), .val (.int cc0)]) X0 hx hby djdk52m21_13 rfl rfl ?_
  refine w_iload (pc' := 17) X0 hx hby djdk52m21_15 rfl rfl ?_
  refine w_sipush (pc' := 20) (v := 255) X0 hx hby djdk52m21_17 rfl rfl ?_
  refine w_icmpYes (pc' := 26) X0 hx hby djdk52m21_20 (XT.ii_le_t (hg0)) (by decide) ?_
  refine w_aloadN (pc' := 27) X0 hx hby djdk52m21_26 rfl rfl rfl ?_
  refine w_iloadN (pc' := 28) X0 hx hby djdk52m21_27 rfl rfl ?_
  refine w_iload (pc' := 30) X0 hx hby djdk52m21_28 rfl rfl ?_
  refine w_i2b (pc' := 31) X0 hx hby djdk52m21_30 rfl ?_
  obtain ⟨T752, h752, X752, e752, W752, V752, st752⟩ := own_stB X0 hx hZ e0 f1 (j := (0 : Int32)) ⟨by decide, by decide⟩ 0 (by decide) (by decide : 0 < 3) (g := (mkF m 31 #[.val (.ref ca), .val (.int (0 : Int32)), .val (.ref bd), .val (.int (0 : Int32)), .val (.int (3 : Int32)), .val (.int (0 : Int32)), .val (.int cc0)] [(.int (cc0).toInt8.toInt32), (.int (0 : Int32)), (.ref bd)])) rfl rfl (hb hby djdk52m21_31)
  have N753 := Fr.snoc X752 N0 gd
  have f754 : Arv Z h752 ca kc .char (3 : Int32) [(.int cc0), (.int cc1), (.int cc2)] (.int (0 : Int32)) := f0.other W752 ncd
  have Z755 := Nat.le_trans Z0 (Keep.of_wr W752).1
  have Kp756 : Keep h0 h752 [bd] := K00.wr W752 (Or.inl (List.mem_of_getElem? (i := 0) rfl))
  have f757 : Arv Z h752 bd kd .byte (3 : Int32) [(.int ((cc0).toInt8.toInt32).toInt8.toInt32), (.int (0 : Int32)), (.int (0 : Int32))] (.int (0 : Int32)) := V752
  refine Rch.st (fun _ k => st752 _ k) ?_
  show Rch p e below T752 (mkF m 32 #[.val (.ref ca), .val (.int (0 : Int32)), .val (.ref bd), .val (.int (0 : Int32)), .val (.int (3 : Int32)), .val (.int (0 : Int32)), .val (.int cc0)] []) _
  refine w_iinc (pc' := 35) (w := (1 : Int32)) (l' := #[.val (.ref ca), .val (.int (1 : Int32)), .val (.ref bd), .val (.int (0 : Int32)), .val (.int (3 : Int32)), .val (.int (0 : Int32)), .val (.int cc0)]) X752 hx hby djdk52m21_32 rfl (by decide) rfl rfl ?_
  refine w_iinc (pc' := 38) (w := (1 : Int32)) (l' := #[.val (.ref ca), .val (.int (1 : Int32)), .val (.ref bd), .val (.int (1 : Int32)), .val (.int (3 : Int32)), .val (.int (0 : Int32)), .val (.int cc0)]) X752 hx hby djdk52m21_35 rfl (by decide) rfl rfl ?_
  refine w_iinc (pc' := 41) (w := (1 : Int32)) (l' := #[.val (.ref ca), .val (.int (1 : Int32)), .val (.ref bd), .val (.int (1 : Int32)), .val (.int (3 : Int32)), .val (.int (1 : Int32)), .val (.int cc0)]) X752 hx hby djdk52m21_38 rfl (by decide) rfl rfl ?_
  refine w_goto (pc' := 3) X752 hx hby djdk52m21_41 (by decide) ?_
  refine w_iload (pc' := 5) X752 hx hby djdk52m21_3 rfl rfl ?_
  refine w_iload (pc' := 7) X752 hx hby djdk52m21_5 rfl rfl ?_
  refine w_icmpNo (pc' := 10) X752 hx hby djdk52m21_7 (XT.ii_ge_f (by decide)) rfl ?_
  refine w_aloadN (pc' := 11) X752 hx hby djdk52m21_10 rfl rfl rfl ?_
  refine w_iloadN (pc' := 12) X752 hx hby djdk52m21_11 rfl rfl ?_
  refine Rch.st (fun _ k => own_ldC X752 hx hZ e752 f754 (j := (1 : Int32)) ⟨by decide, by decide⟩ (by rfl) rfl rfl (hb hby djdk52m21_12) k) ?_
  show Rch p e below T752 (mkF m 13 #[.val (.ref ca), .val (.int (1 : Int32)), .val (.ref bd), .val (.int (1 : Int32)), .val (.int (3 : Int32)), .val (.int (1 : Int32)), .val (.int cc0)] [(.int cc1)]) _
  refine w_istore (pc' := 15) (l' := #[.val (.ref ca), .val (.int (1 : Int32)), .val (.ref bd), .val (.int (1 : Int32)), .val (.int (3 : Int32)), .val (.int (1 : Int32)), .val (.int cc1)]) X752 hx hby djdk52m21_13 rfl rfl ?_
  refine w_iload (pc' := 17) X752 hx hby djdk52m21_15 rfl rfl ?_
  refine w_sipush (pc' := 20) (v := 255) X752 hx hby djdk52m21_17 rfl rfl ?_
  refine w_icmpYes (pc' := 26) X752 hx hby djdk52m21_20 (XT.ii_le_t (hg1)) (by decide) ?_
  refine w_aloadN (pc' := 27) X752 hx hby djdk52m21_26 rfl rfl rfl ?_
  refine w_iloadN (pc' := 28) X752 hx hby djdk52m21_27 rfl rfl ?_
  refine w_iload (pc' := 30) X752 hx hby djdk52m21_28 rfl rfl ?_
  refine w_i2b (pc' := 31) X752 hx hby djdk52m21_30 rfl ?_
  obtain ⟨T758, h758, X758, e758, W758, V758, st758⟩ := own_stB X752 hx hZ e752 f757 (j := (1 : Int32)) ⟨by decide, by decide⟩ 1 (by decide) (by decide : 1 < 3) (g := (mkF m 31 #[.val (.ref ca), .val (.int (1 : Int32)), .val (.ref bd), .val (.int (1 : Int32)), .val (.int (3 : Int32)), .val (.int (1 : Int32)), .val (.int cc1)] [(.int (cc1).toInt8.toInt32), (.int (1 : Int32)), (.ref bd)])) rfl rfl (hb hby djdk52m21_31)
  have N759 := Fr.snoc X758 N753 gd
  have f760 : Arv Z h758 ca kc .char (3 : Int32) [(.int cc0), (.int cc1), (.int cc2)] (.int (0 : Int32)) := f754.other W758 ncd
  have Z761 := Nat.le_trans Z755 (Keep.of_wr W758).1
  have Kp762 : Keep h0 h758 [bd] := Kp756.wr W758 (Or.inl (List.mem_of_getElem? (i := 0) rfl))
  have f763 : Arv Z h758 bd kd .byte (3 : Int32) [(.int ((cc0).toInt8.toInt32).toInt8.toInt32), (.int ((cc1).toInt8.toInt32).toInt8.toInt32), (.int (0 : Int32))] (.int (0 : Int32)) := V758
  refine Rch.st (fun _ k => st758 _ k) ?_
  show Rch p e below T758 (mkF m 32 #[.val (.ref ca), .val (.int (1 : Int32)), .val (.ref bd), .val (.int (1 : Int32)), .val (.int (3 : Int32)), .val (.int (1 : Int32)), .val (.int cc1)] []) _
  refine w_iinc (pc' := 35) (w := (2 : Int32)) (l' := #[.val (.ref ca), .val (.int (2 : Int32)), .val (.ref bd), .val (.int (1 : Int32)), .val (.int (3 : Int32)), .val (.int (1 : Int32)), .val (.int cc1)]) X758 hx hby djdk52m21_32 rfl (by decide) rfl rfl ?_
  refine w_iinc (pc' := 38) (w := (2 : Int32)) (l' := #[.val (.ref ca), .val (.int (2 : Int32)), .val (.ref bd), .val (.int (2 : Int32)), .val (.int (3 : Int32)), .val (.int (1 : Int32)), .val (.int cc1)]) X758 hx hby djdk52m21_35 rfl (by decide) rfl rfl ?_
  refine w_iinc (pc' := 41) (w := (2 : Int32)) (l' := #[.val (.ref ca), .val (.int (2 : Int32)), .val (.ref bd), .val (.int (2 : Int32)), .val (.int (3 : Int32)), .val (.int (2 : Int32)), .val (.int cc1)]) X758 hx hby djdk52m21_38 rfl (by decide) rfl rfl ?_
  refine w_goto (pc' := 3) X758 hx hby djdk52m21_41 (by decide) ?_
  refine w_iload (pc' := 5) X758 hx hby djdk52m21_3 rfl rfl ?_
  refine w_iload (pc' := 7) X758 hx hby djdk52m21_5 rfl rfl ?_
  refine w_icmpNo (pc' := 10) X758 hx hby djdk52m21_7 (XT.ii_ge_f (by decide)) rfl ?_
  refine w_aloadN (pc' := 11) X758 hx hby djdk52m21_10 rfl rfl rfl ?_
  refine w_iloadN (pc' := 12) X758 hx hby djdk52m21_11 rfl rfl ?_
  refine Rch.st (fun _ k => own_ldC X758 hx hZ e758 f760 (j := (2 : Int32)) ⟨by decide, by decide⟩ (by rfl) rfl rfl (hb hby djdk52m21_12) k) ?_
  show Rch p e below T758 (mkF m 13 #[.val (.ref ca), .val (.int (2 : Int32)), .val (.ref bd), .val (.int (2 : Int32)), .val (.int (3 : Int32)), .val (.int (2 : Int32)), .val (.int cc1)] [(.int cc2)]) _
  refine w_istore (pc' := 15) (l' := #[.val (.ref ca), .val (.int (2 : Int32)), .val (.ref bd), .val (.int (2 : Int32)), .val (.int (3 : Int32)), .val (.int (2 : Int32)), .val (.int cc2)]) X758 hx hby djdk52m21_13 rfl rfl ?_
  refine w_iload (pc' := 17) X758 hx hby djdk52m21_15 rfl rfl ?_
  refine w_sipush (pc' := 20) (v := 255) X758 hx hby djdk52m21_17 rfl rfl ?_
  refine w_icmpNo (pc' := 23) X758 hx hby djdk52m21_20 (XT.ii_le_f (hx2)) rfl ?_
  refine w_iload (pc' := 25) X758 hx hby djdk52m21_23 rfl rfl ?_
  exact Rch.retV X758 hx Bd.returns rfl (Or.inl ⟨rfl, by simp, _, rfl⟩) (hb hby djdk52m21_25) (by rw [e758]; exact ⟨rfl, N759, Kp762⟩) (by decide) (by decide)

theorem ef_rm_cmp3_3_2 (m : MethodId) (ca : Addr) (kc : ClassId) (cc0 : Int32) (cc1 : Int32) (cc2 : Int32)  : entryFrame m #[(.ref ca), (.int (0 : Int32)), (.int (3 : Int32))] 6 = mkF m 0 #[.val (.ref ca), .val (.int (0 : Int32)), .val (.int (3 : Int32)), .unset, .unset, .unset] [] := by  first | (simp [entryFrame, mkF, argsToLocals, Value.category, maxLocals]; done) | rfl
def Q_rm_cmp3_3_2 (Z : State) (ca : Addr) (kc : ClassId) (cc0 : Int32) (cc1 : Int32) (cc2 : Int32) (h0 : Heap) (n0 : Nat) (v : Option Value) (h : Heap) (L : List Loc) : Prop := ∃ (t : Addr) (kt : ClassId), (v = some (.ref t)) ∧ (Fr n0 L) ∧ (Keep h0 h []) ∧ (h0.size ≤ t) ∧ (Arv Z h t kt .byte (6 : Int32) [(.int (own_lo cc0)), (.int (own_hi cc0)), (.int (own_lo cc1)), (.int (own_hi cc1)), (.int (own_lo cc2)), (.int (own_hi cc2))] (.int (0 : Int32)))
set_option maxRecDepth 65536 in
set_option maxHeartbeats 40000000 in
theorem rm_cmp3_3_2 (l : Launch) (Z : State) (a0 : Array Value) (hw : ∀ d ∈ tables_1, d.before a0 Z = true) (ws : List Jvm.Cond) (ca : Addr) (kc : ClassId) (cc0 : Int32) (cc1 : Int32) (cc2 : Int32) (h0 : Heap) (n0 : Nat) (Z0 : n0 ≤ h0.size) (SA : Sta Z Z.heap "java/lang/StringUTF16" "$assertionsDisabled" "Z" (.int 1)) (SH : Sta Z Z.heap "java/lang/StringUTF16" "HI_BYTE_SHIFT" "I" (.int 0)) (SL : Sta Z Z.heap "java/lang/StringUTF16" "LO_BYTE_SHIFT" "I" (.int 8)) (f3 : Arv Z h0 ca kc .char (3 : Int32) [(.int cc0), (.int cc1), (.int cc2)] (.int (0 : Int32))) (hg0 : ¬ (255 : Int32) < cc0) (hg1 : ¬ (255 : Int32) < cc1) (hx2 : (255 : Int32) < cc2) (hn2 : ¬ cc2 < 0) (hm2 : ¬ (65535 : Int32) < cc2) (Old0 : OldL Z n0 h0) :
    MetFree l (⟨"java/lang/StringUTF16", "compress", "([CII)[B"⟩ : MethodName) (head1 (Jvm.Cond.code (⟨"java/lang/StringUTF16", "compress", "([CII)[B"⟩ : MethodName) jdk_52_method_16_code 6 (some (.array .byte)) :: ws) ({ frames := 3, cells := 2, slots := 9, locals := 40 } : Room)) (fun a U => a = #[(.ref ca), (.int (0 : Int32)), (.int (3 : Int32))] ∧ Z.Warmed39 U.vm ∧ U.heap = h0) (fun _ _ _ _ _ => True) (fun _ U o U' => ∃ v L, o = .returned v ∧ Q_rm_cmp3_3_2 Z ca kc cc0 cc1 cc2 h0 n0 v U'.heap L ∧ FrameEnd U o U' L ({ frames := 3, cells := 2, slots := 9, locals := 40 } : Room).cells ({ frames := 3, cells := 2, slots := 9, locals := 40 } : Room).slots) := by
  refine MetFree.of_bodySF (plainFor_of_name pn_java_lang_StringUTF16) hisR ?_
  intro p e s m args below meth c s₁ Bd hml0 hP hK
  obtain ⟨rfl, hZ, hh⟩ := hP
  have hx := Bd.exec
  have hby := Bd.bytes
  have hml : c.maxLocals = 6 := hml0
  have hown : s.vm.findClass "java/lang/StringUTF16" = some m.cls := findClass_of_methodNamed Bd.named
  have hnm := (name_of_methodNamed Bd.named Bd.method).1
  have X0 : Stand p l e ({ frames := 3, cells := 2, slots := 9, locals := 40 } : Room) s m #[(.ref ca), (.int (0 : Int32)), (.int (3 : Int32))] below meth c s₁ [] 0 0 := Stand.of_body Bd
  have e0 : s₁.heap = h0 := by rw [← hh, Bd.state]; rfl
  have N0 := Fr.nil n0
  have K00 : Keep h0 h0 [] := Keep.refl _ _
  have hlk0 : meth.locks = false := by first | assumption | exact BodyLoose.notSynchronized (by assumption) | exact Body.notSynchronized (by assumption)
  show Rch p e below s₁ (entryFrame m #[(.ref ca), (.int (0 : Int32)), (.int (3 : Int32))] 6) (FinP s (Q_rm_cmp3_3_2 Z ca kc cc0 cc1 cc2 h0 n0) 2 9)
  refine Rch.cast (ef_rm_cmp3_3_2 m ca kc cc0 cc1 cc2) ?_
  show Rch p e below s₁ (mkF m 0 #[.val (.ref ca), .val (.int (0 : Int32)), .val (.int (3 : Int32)), .unset, .unset, .unset] []) _
  refine w_iloadN (pc' := 1) X0 hx hby djdk52m16_0 rfl rfl ?_
  obtain ⟨T764, h764, kc764, X764, e764, E764, A764, st764⟩ := newP X0 hx hZ (hw _ (List.mem_of_getElem? (i := 16) rfl)) e0 (g := (mkF m 1 #[.val (.ref ca), .val (.int (0 : Int32)), .val (.int (3 : Int32)), .unset, .unset, .unset] [(.int (3 : Int32))])) rfl (hb hby djdk52m16_1) rfl (by decide : ¬ ((3 : Int32) < (0 : Int32))) (cap := 3) (by decide : (3 : Int32).toNatClampNeg ≤ 3) (by decide) (by decide) (by decide)
  obtain ⟨a764, g764⟩ : ∃ z, z = h0.size := ⟨_, rfl⟩
  rw [← g764] at A764 st764
  have ne765 : ca ≠ a764 := by rw [g764]; exact Nat.ne_of_lt f3.lt
  have ge766 : n0 ≤ a764 := Nat.le_trans Z0 (Nat.le_of_eq g764.symm)
  have f768 : Arv Z h764 ca kc .char (3 : Int32) [(.int cc0), (.int cc1), (.int cc2)] (.int (0 : Int32)) := f3.ext E764
  have Old769 := Old0.ext E764
  have Z770 := Nat.le_trans Z0 E764.1
  have Kp771 : Keep h0 h764 [] := K00.ext E764
  have f772 : Arv Z h764 a764 kc764 .byte (3 : Int32) [(.int (0 : Int32)), (.int (0 : Int32)), (.int (0 : Int32))] (.int (0 : Int32)) := (Arv.new A764 (by decide : ¬ ((3 : Int32) < (0 : Int32)))).pad (pad_rep [] (.int (0 : Int32)) 3)
  refine Rch.st (fun _ k => st764 _ k) ?_
  show Rch p e below T764 (mkF m 3 #[.val (.ref ca), .val (.int (0 : Int32)), .val (.int (3 : Int32)), .unset, .unset, .unset] [(.ref a764)]) _
  refine w_astoreN (pc' := 4) (l' := #[.val (.ref ca), .val (.int (0 : Int32)), .val (.int (3 : Int32)), .val (.ref a764), .unset, .unset]) X764 hx hby djdk52m16_3 rfl rfl rfl ?_
  refine w_aloadN (pc' := 5) X764 hx hby djdk52m16_4 rfl rfl rfl ?_
  refine w_iloadN (pc' := 6) X764 hx hby djdk52m16_5 rfl rfl ?_
  refine w_aloadN (pc' := 7) X764 hx hby djdk52m16_6 rfl rfl rfl ?_
  refine w_iconst (pc' := 8) (v := 0) X764 hx hby djdk52m16_7 rfl rfl ?_
  refine w_iloadN (pc' := 9) X764 hx hby djdk52m16_8 rfl rfl ?_
  obtain ⟨_, _, ⟨T773, L773, k773, n773⟩, -, X773, ⟨Lc773, hQ773, l773, y773, z773⟩, st773⟩ := Jvm.LawKit.callS X764 hx (y := (⟨"java/lang/StringUTF16", "compress", "([CI[BII)I"⟩ : MethodName)) hown (mvT hZ (hw _ (List.mem_of_getElem? (i := 54) rfl))) (mvT hZ (hw _ (List.mem_of_getElem? (i := 55) rfl))) (mvT hZ (hw _ (List.mem_of_getElem? (i := 52) rfl))) (mvT hZ (hw _ (List.mem_of_getElem? (i := 56) rfl))) (by decide) (backOf (W := 0) (rm_cmp5_3_2 l Z a0 hw [] ca kc a764 kc764 cc0 cc1 cc2 h764 n0 Z770 f768 f772 (ge766) (ne765) (hg0) (hg1) (hx2)) hZ (hw _ (List.mem_of_getElem? (i := 56) rfl)) (hw _ (List.mem_of_getElem? (i := 52) rfl)) (by decide) (by decide)) (g := (mkF m 9 #[.val (.ref ca), .val (.int (0 : Int32)), .val (.int (3 : Int32)), .val (.ref a764), .unset, .unset] [(.int (3 : Int32)), (.int (0 : Int32)), (.ref a764), (.int (0 : Int32)), (.ref ca)])) rfl (by rw [hml]; rfl) (argsL := [(.ref ca), (.int (0 : Int32)), (.ref a764), (.int (0 : Int32)), (.int (3 : Int32))]) (rest := []) (lenOf pd___CI_BII_I rfl) rfl (by show 2 * 0 + _ ≤ _; exact Nat.le_of_eq rfl) (hb hby djdk52m16_9) (fun _ _ => ⟨rfl, e764, (by decide : 1 + 0 ≤ _), (by decide : 3 + 0 ≤ _)⟩)
  dsimp only [Pt.U, Pt.locs, Pt.cells, Pt.slots] at X773 l773 y773 z773 st773 hQ773
  subst l773 y773 z773
  obtain ⟨rfl, NQ773, K773⟩ := hQ773
  have N774 := Fr.app N0 NQ773
  have f775 : Arv Z T773.heap ca kc .char (3 : Int32) [(.int cc0), (.int cc1), (.int cc2)] (.int (0 : Int32)) := f768.keep K773 (ninS ne765 nin0)
  have Old776 := Old769.keep K773 (allS ge766 all0)
  have Kp777 : Keep h0 T773.heap [] := Kp771.trans K773 (allS (Or.inr (Nat.le_trans K00.1 (Nat.le_of_eq g764.symm))) all0)
  have Z778 := Nat.le_trans Z770 K773.1
  refine Rch.st (fun _ k => st773 _ k) ?_
  show Rch p e below T773 (mkF m 12 #[.val (.ref ca), .val (.int (0 : Int32)), .val (.int (3 : Int32)), .val (.ref a764), .unset, .unset] [(.int (2 : Int32))]) _
  refine w_istore (pc' := 14) (l' := #[.val (.ref ca), .val (.int (0 : Int32)), .val (.int (3 : Int32)), .val (.ref a764), .val (.int (2 : Int32)), .unset]) X773 hx hby djdk52m16_12 rfl rfl ?_
  refine w_iload (pc' := 16) X773 hx hby djdk52m16_14 rfl rfl ?_
  refine w_iloadN (pc' := 17) X773 hx hby djdk52m16_16 rfl rfl ?_
  refine w_icmpNo (pc' := 20) X773 hx hby djdk52m16_17 (XT.ii_eq_f (by decide)) rfl ?_
  refine w_aloadN (pc' := 21) X773 hx hby djdk52m16_20 rfl rfl rfl ?_
  refine w_iloadN (pc' := 22) X773 hx hby djdk52m16_21 rfl rfl ?_
  refine w_iloadN (pc' := 23) X773 hx hby djdk52m16_22 rfl rfl ?_
  obtain ⟨_, _, ⟨T779, L779, k779, n779⟩, -, X779, ⟨Lc779, hQ779, l779, y779, z779⟩, st779⟩ := Jvm.LawKit.callS X773 hx (y := (⟨"java/lang/StringUTF16", "toBytes", "([CII)[B"⟩ : MethodName)) hown (mvT hZ (hw _ (List.mem_of_getElem? (i := 64) rfl))) (mvT hZ (hw _ (List.mem_of_getElem? (i := 65) rfl))) (mvT hZ (hw _ (List.mem_of_getElem? (i := 52) rfl))) (mvT hZ (hw _ (List.mem_of_getElem? (i := 66) rfl))) (by decide) (backOf (W := 0) (rm_tob_3 l Z a0 hw [] ca kc cc0 cc1 cc2 T773.heap n0 Z778 (SA) (SH) (SL) f775 Old776) hZ (hw _ (List.mem_of_getElem? (i := 66) rfl)) (hw _ (List.mem_of_getElem? (i := 52) rfl)) (by decide) (by decide)) (g := (mkF m 23 #[.val (.ref ca), .val (.int (0 : Int32)), .val (.int (3 : Int32)), .val (.ref a764), .val (.int (2 : Int32)), .unset] [(.int (3 : Int32)), (.int (0 : Int32)), (.ref ca)])) rfl (by rw [hml]; rfl) (argsL := [(.ref ca), (.int (0 : Int32)), (.int (3 : Int32))]) (rest := []) (lenOf pd___CII__B rfl) rfl (by show 2 * 0 + _ ≤ _; exact Nat.le_of_eq rfl) (hb hby djdk52m16_23) (fun _ _ => ⟨rfl, (rfl : T773.heap = T773.heap), (by decide : 1 + 1 ≤ _), (by decide : 3 + 6 ≤ _)⟩)
  dsimp only [Pt.U, Pt.locs, Pt.cells, Pt.slots] at X779 l779 y779 z779 st779 hQ779
  subst l779 y779 z779
  obtain ⟨t_779, kt_779, rfl, NQ779, K779, pq779_0, fq779_0⟩ := hQ779
  have N780 := Fr.app N774 NQ779
  have ne781 : ca ≠ t_779 := Nat.ne_of_lt (Nat.lt_of_lt_of_le f775.lt pq779_0)
  have ge782 : n0 ≤ t_779 := Nat.le_trans Z778 pq779_0
  have f783 : Arv Z T779.heap ca kc .char (3 : Int32) [(.int cc0), (.int cc1), (.int cc2)] (.int (0 : Int32)) := f775.keep K779 nin0
  have Old784 := Old776.keep K779 all0
  have Kp785 : Keep h0 T779.heap [] := Kp777.trans K779 all0
  have Z786 := Nat.le_trans Z778 K779.1
  refine Rch.st (fun _ k => st779 _ k) ?_
  show Rch p e below T779 (mkF m 26 #[.val (.ref ca), .val (.int (0 : Int32)), .val (.int (3 : Int32)), .val (.ref a764), .val (.int (2 : Int32)), .unset] [(.ref t_779)]) _
  refine w_astore (pc' := 28) (l' := #[.val (.ref ca), .val (.int (0 : Int32)), .val (.int (3 : Int32)), .val (.ref a764), .val (.int (2 : Int32)), .val (.ref t_779)]) X779 hx hby djdk52m16_26 rfl rfl rfl ?_
  refine w_aload (pc' := 30) X779 hx hby djdk52m16_28 rfl rfl rfl ?_
  refine w_iload (pc' := 32) X779 hx hby djdk52m16_30 rfl rfl ?_
  obtain ⟨_, _, ⟨T787, L787, k787, n787⟩, -, X787, ⟨Lc787, hQ787, l787, y787, z787⟩, st787⟩ := Jvm.LawKit.callS X779 hx (y := (⟨"java/lang/StringUTF16", "getChar", "([BI)C"⟩ : MethodName)) hown (mvT hZ (hw _ (List.mem_of_getElem? (i := 80) rfl))) (mvT hZ (hw _ (List.mem_of_getElem? (i := 81) rfl))) (mvT hZ (hw _ (List.mem_of_getElem? (i := 52) rfl))) (mvT hZ (hw _ (List.mem_of_getElem? (i := 82) rfl))) (by decide) (backOf (W := 0) (rm_get_2 l Z a0 hw [] t_779 kt_779 (6 : Int32) ([(.int (own_lo cc0)), (.int (own_hi cc0)), (.int (own_lo cc1)), (.int (own_hi cc1)), (.int (own_lo cc2)), (.int (own_hi cc2))]) (.int (0 : Int32)) (own_lo cc2) (own_hi cc2) T779.heap n0 Z786 (SA) (SH) (SL) fq779_0 (by decide) (by decide) (rfl) (rfl) Old784) hZ (hw _ (List.mem_of_getElem? (i := 82) rfl)) (hw _ (List.mem_of_getElem? (i := 52) rfl)) (by decide) (by decide)) (g := (mkF m 32 #[.val (.ref ca), .val (.int (0 : Int32)), .val (.int (3 : Int32)), .val (.ref a764), .val (.int (2 : Int32)), .val (.ref t_779)] [(.int (2 : Int32)), (.ref t_779)])) rfl (by rw [hml]; rfl) (argsL := [(.ref t_779), (.int (2 : Int32))]) (rest := []) (lenOf pd___BI_C rfl) rfl (by show 2 * 0 + _ ≤ _; exact Nat.le_of_eq rfl) (hb hby djdk52m16_32) (fun _ _ => ⟨rfl, (rfl : T779.heap = T779.heap), (by decide : 2 + 0 ≤ _), (by decide : 9 + 0 ≤ _)⟩)
  dsimp only [Pt.U, Pt.locs, Pt.cells, Pt.slots] at X787 l787 y787 z787 st787 hQ787
  subst l787 y787 z787
  obtain ⟨rfl, NQ787, K787⟩ := hQ787
  have N788 := Fr.app N780 NQ787
  refine Rch.st (fun _ k => st787 _ k) ?_
  show Rch p e below T787 (mkF m 35 #[.val (.ref ca), .val (.int (0 : Int32)), .val (.int (3 : Int32)), .val (.ref a764), .val (.int (2 : Int32)), .val (.ref t_779)] [(.int (own_gc (own_lo cc2) (own_hi cc2)))]) _
  have r789 : (own_gc (own_lo cc2) (own_hi cc2)) = cc2 := own_getput hn2 hm2
  rw [r789]
  show Rch p e below T787 (mkF m 35 #[.val (.ref ca), .val (.int (0 : Int32)), .val (.int (3 : Int32)), .val (.ref a764), .val (.int (2 : Int32)), .val (.ref t_779)] [(.int cc2)]) _
  refine w_sipush (pc' := 38) (v := 255) X787 hx hby djdk52m16_35 rfl rfl ?_
  refine w_icmpYes (pc' := 54) X787 hx hby djdk52m16_38 (XT.ii_gt_t (hx2)) (by decide) ?_
  refine w_aload (pc' := 56) X787 hx hby djdk52m16_54 rfl rfl rfl ?_
  exact Rch.retV X787 hx Bd.returns rfl (Or.inr (Or.inr (Or.inr (Or.inr ⟨rfl, rfl, rfl⟩)))) (hb hby djdk52m16_56) (by rw [K787]; exact ⟨t_779, kt_779, rfl, N788, Kp785, (Nat.le_trans Kp777.1 pq779_0), fq779_0⟩) (by decide) (by decide)

theorem ef_rm_init4_3_2 (m : MethodId) (G1 : Int32) (a5 : Addr) (ca : Addr) (kc : ClassId) (cc0 : Int32) (cc1 : Int32) (cc2 : Int32)  : entryFrame m #[(.ref a5), (.ref ca), (.int (0 : Int32)), (.int (3 : Int32)), .null] 6 = mkF m 0 #[.val (.ref a5), .val (.ref ca), .val (.int (0 : Int32)), .val (.int (3 : Int32)), .val .null, .unset] [] := by  first | (simp [entryFrame, mkF, argsToLocals, Value.category, maxLocals]; done) | rfl
def Q_rm_init4_3_2 (Z : State) (G1 : Int32) (a5 : Addr) (ca : Addr) (kc : ClassId) (cc0 : Int32) (cc1 : Int32) (cc2 : Int32) (h0 : Heap) (n0 : Nat) (v : Option Value) (h : Heap) (L : List Loc) : Prop := ∃ (t : Addr) (kt : ClassId), (v = none) ∧ (Fr n0 L) ∧ (Keep h0 h [a5]) ∧ (h0.size ≤ t) ∧ (Fld Z h a5 "java/lang/String" "coder" "B" (.int (1 : Int32))) ∧ (Fld Z h a5 "java/lang/String" "value" "[B" (.ref t)) ∧ (Arv Z h t kt .byte (6 : Int32) [(.int (own_lo cc0)), (.int (own_hi cc0)), (.int (own_lo cc1)), (.int (own_hi cc1)), (.int (own_lo cc2)), (.int (own_hi cc2))] (.int (0 : Int32)))
set_option maxRecDepth 65536 in
set_option maxHeartbeats 40000000 in
theorem rm_init4_3_2 (l : Launch) (Z : State) (a0 : Array Value) (hw : ∀ d ∈ tables_1, d.before a0 Z = true) (ws : List Jvm.Cond) (G1 : Int32) (a5 : Addr) (ca : Addr) (kc : ClassId) (cc0 : Int32) (cc1 : Int32) (cc2 : Int32) (h0 : Heap) (n0 : Nat) (Z0 : n0 ≤ h0.size) (O2 : Sta Z Z.heap "java/lang/String" "COMPACT_STRINGS" "Z" (.int G1)) (P5 : ¬ G1 = 0) (SA : Sta Z Z.heap "java/lang/StringUTF16" "$assertionsDisabled" "Z" (.int 1)) (SH : Sta Z Z.heap "java/lang/StringUTF16" "HI_BYTE_SHIFT" "I" (.int 0)) (SL : Sta Z Z.heap "java/lang/StringUTF16" "LO_BYTE_SHIFT" "I" (.int 8)) (f5 : Exa Z h0 a5 "java/lang/String") (f6 : Fld Z h0 a5 "java/lang/String" "coder" "B" (.int (0 : Int32))) (f7 : Fld Z h0 a5 "java/lang/String" "value" "[B" .null) (f8 : Arv Z h0 ca kc .char (3 : Int32) [(.int cc0), (.int cc1), (.int cc2)] (.int (0 : Int32))) (ga : n0 ≤ a5) (nca : a5 ≠ ca) (hg0 : ¬ (255 : Int32) < cc0) (hg1 : ¬ (255 : Int32) < cc1) (hx2 : (255 : Int32) < cc2) (hn2 : ¬ cc2 < 0) (hm2 : ¬ (65535 : Int32) < cc2) (Old0 : OldL Z n0 h0) :
    MetFree l (⟨"java/lang/String", "<init>", "([CIILjava/lang/Void;)V"⟩ : MethodName) (head1 (Jvm.Cond.code (⟨"java/lang/String", "<init>", "([CIILjava/lang/Void;)V"⟩ : MethodName) jdk_42_method_149_code 6 none :: ws) ({ frames := 4, cells := 2, slots := 9, locals := 57 } : Room)) (fun a U => a = #[(.ref a5), (.ref ca), (.int (0 : Int32)), (.int (3 : Int32)), .null] ∧ Z.Warmed39 U.vm ∧ U.heap = h0) (fun _ _ _ _ _ => True) (fun _ U o U' => ∃ v L, o = .returned v ∧ Q_rm_init4_3_2 Z G1 a5 ca kc cc0 cc1 cc2 h0 n0 v U'.heap L ∧ FrameEnd U o U' L ({ frames := 4, cells := 2, slots := 9, locals := 57 } : Room).cells ({ frames := 4, cells := 2, slots := 9, locals := 57 } : Room).slots) := by
  refine MetFree.of_bodySF (plainFor_of_name pn_java_lang_String) hisR ?_
  intro p e s m args below meth c s₁ Bd hml0 hP hK
  obtain ⟨rfl, hZ, hh⟩ := hP
  have hx := Bd.exec
  have hby := Bd.bytes
  have hml : c.maxLocals = 6 := hml0
  have hown : s.vm.findClass "java/lang/String" = some m.cls := findClass_of_methodNamed Bd.named
  have hnm := (name_of_methodNamed Bd.named Bd.method).1
  have X0 : Stand p l e ({ frames := 4, cells := 2, slots := 9, locals := 57 } : Room) s m #[(.ref a5), (.ref ca), (.int (0 : Int32)), (.int (3 : Int32)), .null] below meth c s₁ [] 0 0 := Stand.of_body Bd
  have e0 : s₁.heap = h0 := by rw [← hh, Bd.state]; rfl
  have N0 := Fr.nil n0
  have K00 : Keep h0 h0 [a5] := Keep.refl _ _
  have hlk0 : meth.locks = false := by first | assumption | exact BodyLoose.notSynchronized (by assumption) | exact Body.notSynchronized (by assumption)
  show Rch p e below s₁ (entryFrame m #[(.ref a5), (.ref ca), (.int (0 : Int32)), (.int (3 : Int32)), .null] 6) (FinP s (Q_rm_init4_3_2 Z G1 a5 ca kc cc0 cc1 cc2 h0 n0) 2 9)
  refine Rch.cast (ef_rm_init4_3_2 m G1 a5 ca kc cc0 cc1 cc2) ?_
  show Rch p e below s₁ (mkF m 0 #[.val (.ref a5), .val (.ref ca), .val (.int (0 : Int32)), .val (.int (3 : Int32)), .val .null, .unset] []) _
  refine w_aloadN (pc' := 1) X0 hx hby djdk42m149_0 rfl rfl rfl ?_
  obtain ⟨T790, X790, e790, st790⟩ := initO X0 hx hZ hown (hw _ (List.mem_of_getElem? (i := 12) rfl)) (hw _ (List.mem_of_getElem? (i := 13) rfl)) (hw _ (List.mem_of_getElem? (i := 14) rfl)) e0 (g := (mkF m 1 #[.val (.ref a5), .val (.ref ca), .val (.int (0 : Int32)), .val (.int (3 : Int32)), .val .null, .unset] [(.ref a5)])) rfl (by rw [hml]; rfl) rfl (hb hby djdk42m149_1) (by decide) (W := 0) (by show 2 * 0 + _ ≤ _; exact Nat.le_of_eq rfl) (by decide)
  refine Rch.st (fun _ k => st790 _ k) ?_
  show Rch p e below T790 (mkF m 4 #[.val (.ref a5), .val (.ref ca), .val (.int (0 : Int32)), .val (.int (3 : Int32)), .val .null, .unset] []) _
  refine w_iloadN (pc' := 5) X790 hx hby djdk42m149_4 rfl rfl ?_
  refine w_ifYes (pc' := 27) X790 hx hby djdk42m149_5 (XT.i0_ne_t (by decide)) (by decide) ?_
  obtain ⟨T791, X791, e791, st791⟩ := getS X790 hx hZ hown (host := "") (hw _ (List.mem_of_getElem? (i := 48) rfl)) Via.refl e790 (O2.ext Old0.2) (g := (mkF m 27 #[.val (.ref a5), .val (.ref ca), .val (.int (0 : Int32)), .val (.int (3 : Int32)), .val .null, .unset] [])) rfl (hb hby djdk42m149_27)
  refine Rch.st (fun _ k => st791 _ k) ?_
  show Rch p e below T791 (mkF m 30 #[.val (.ref a5), .val (.ref ca), .val (.int (0 : Int32)), .val (.int (3 : Int32)), .val .null, .unset] [(.int G1)]) _
  refine w_ifNo (pc' := 33) X791 hx hby djdk42m149_30 (XT.i0_eq_f (P5)) rfl ?_
  refine w_aloadN (pc' := 34) X791 hx hby djdk42m149_33 rfl rfl rfl ?_
  refine w_iloadN (pc' := 35) X791 hx hby djdk42m149_34 rfl rfl ?_
  refine w_iloadN (pc' := 36) X791 hx hby djdk42m149_35 rfl rfl ?_
  obtain ⟨_, _, ⟨T792, L792, k792, n792⟩, -, X792, ⟨Lc792, hQ792, l792, y792, z792⟩, st792⟩ := Jvm.LawKit.callS X791 hx (y := (⟨"java/lang/StringUTF16", "compress", "([CII)[B"⟩ : MethodName)) hown (mvT hZ (hw _ (List.mem_of_getElem? (i := 50) rfl))) (mvT hZ (hw _ (List.mem_of_getElem? (i := 51) rfl))) (mvT hZ (hw _ (List.mem_of_getElem? (i := 52) rfl))) (mvT hZ (hw _ (List.mem_of_getElem? (i := 53) rfl))) (by decide) (backOf (W := 0) (rm_cmp3_3_2 l Z a0 hw [] ca kc cc0 cc1 cc2 h0 n0 Z0 (SA) (SH) (SL) f8 (hg0) (hg1) (hx2) (hn2) (hm2) Old0) hZ (hw _ (List.mem_of_getElem? (i := 53) rfl)) (hw _ (List.mem_of_getElem? (i := 52) rfl)) (by decide) (by decide)) (g := (mkF m 36 #[.val (.ref a5), .val (.ref ca), .val (.int (0 : Int32)), .val (.int (3 : Int32)), .val .null, .unset] [(.int (3 : Int32)), (.int (0 : Int32)), (.ref ca)])) rfl (by rw [hml]; rfl) (argsL := [(.ref ca), (.int (0 : Int32)), (.int (3 : Int32))]) (rest := []) (lenOf pd___CII__B rfl) rfl (by show 2 * 0 + _ ≤ _; exact Nat.le_of_eq rfl) (hb hby djdk42m149_36) (fun _ _ => ⟨rfl, e791, (by decide : 0 + 2 ≤ _), (by decide : 0 + 9 ≤ _)⟩)
  dsimp only [Pt.U, Pt.locs, Pt.cells, Pt.slots] at X792 l792 y792 z792 st792 hQ792
  subst l792 y792 z792
  obtain ⟨t_792, kt_792, rfl, NQ792, K792, pq792_0, fq792_0⟩ := hQ792
  have N793 := Fr.app N0 NQ792
  have ne794 : a5 ≠ t_792 := Nat.ne_of_lt (Nat.lt_of_lt_of_le f5.lt pq792_0)
  have ne795 : ca ≠ t_792 := Nat.ne_of_lt (Nat.lt_of_lt_of_le f8.lt pq792_0)
  have ge796 : n0 ≤ t_792 := Nat.le_trans Z0 pq792_0
  have f797 : Exa Z T792.heap a5 "java/lang/String" := f5.keep K792
  have f798 : Fld Z T792.heap a5 "java/lang/String" "coder" "B" (.int (0 : Int32)) := f6.keep K792 nin0
  have f799 : Fld Z T792.heap a5 "java/lang/String" "value" "[B" .null := f7.keep K792 nin0
  have f800 : Arv Z T792.heap ca kc .char (3 : Int32) [(.int cc0), (.int cc1), (.int cc2)] (.int (0 : Int32)) := f8.keep K792 nin0
  have Old801 := Old0.keep K792 all0
  have Kp802 : Keep h0 T792.heap [a5] := K00.trans K792 all0
  have Z803 := Nat.le_trans Z0 K792.1
  refine Rch.st (fun _ k => st792 _ k) ?_
  show Rch p e below T792 (mkF m 39 #[.val (.ref a5), .val (.ref ca), .val (.int (0 : Int32)), .val (.int (3 : Int32)), .val .null, .unset] [(.ref t_792)]) _
  refine w_astore (pc' := 41) (l' := #[.val (.ref a5), .val (.ref ca), .val (.int (0 : Int32)), .val (.int (3 : Int32)), .val .null, .val (.ref t_792)]) X792 hx hby djdk42m149_39 rfl rfl rfl ?_
  refine w_aloadN (pc' := 42) X792 hx hby djdk42m149_41 rfl rfl rfl ?_
  refine w_aload (pc' := 44) X792 hx hby djdk42m149_42 rfl rfl rfl ?_
  refine w_iloadN (pc' := 45) X792 hx hby djdk42m149_44 rfl rfl ?_
  obtain ⟨_, _, ⟨T804, L804, k804, n804⟩, -, X804, ⟨Lc804, hQ804, l804, y804, z804⟩, st804⟩ := Jvm.LawKit.callS X792 hx (y := (⟨"java/lang/StringUTF16", "coderFromArrayLen", "([BI)B"⟩ : MethodName)) hown (mvT hZ (hw _ (List.mem_of_getElem? (i := 57) rfl))) (mvT hZ (hw _ (List.mem_of_getElem? (i := 58) rfl))) (mvT hZ (hw _ (List.mem_of_getElem? (i := 52) rfl))) (mvT hZ (hw _ (List.mem_of_getElem? (i := 59) rfl))) (by decide) (backOf (W := 1) (rm_cfl l Z a0 hw [] t_792 kt_792 (3 : Int32) (6 : Int32) ([(.int (own_lo cc0)), (.int (own_hi cc0)), (.int (own_lo cc1)), (.int (own_hi cc1)), (.int (own_lo cc2)), (.int (own_hi cc2))]) (.int (0 : Int32)) T792.heap n0 Z803 fq792_0) hZ (hw _ (List.mem_of_getElem? (i := 59) rfl)) (hw _ (List.mem_of_getElem? (i := 52) rfl)) (by decide) (by decide)) (g := (mkF m 45 #[.val (.ref a5), .val (.ref ca), .val (.int (0 : Int32)), .val (.int (3 : Int32)), .val .null, .val (.ref t_792)] [(.int (3 : Int32)), (.ref t_792), (.ref a5)])) rfl (by rw [hml]; rfl) (argsL := [(.ref t_792), (.int (3 : Int32))]) (rest := [(.ref a5)]) (lenOf pd___BI_B rfl) rfl (by show 2 * 0 + _ ≤ _; exact Nat.le_of_eq rfl) (hb hby djdk42m149_45) (fun _ _ => ⟨rfl, (rfl : T792.heap = T792.heap), (by decide : 2 + 0 ≤ _), (by decide : 9 + 0 ≤ _)⟩)
  dsimp only [Pt.U, Pt.locs, Pt.cells, Pt.slots] at X804 l804 y804 z804 st804 hQ804
  subst l804 y804 z804
  obtain ⟨rfl, NQ804, K804⟩ := hQ804
  have N805 := Fr.app N793 NQ804
  refine Rch.st (fun _ k => st804 _ k) ?_
  show Rch p e below T804 (mkF m 48 #[.val (.ref a5), .val (.ref ca), .val (.int (0 : Int32)), .val (.int (3 : Int32)), .val .null, .val (.ref t_792)] [(.int ((XT.ushr ((3 : Int32) - (6 : Int32)) (31 : Int32))).toInt8.toInt32), (.ref a5)]) _
  have r806 : ((XT.ushr ((3 : Int32) - (6 : Int32)) (31 : Int32))).toInt8.toInt32 = (1 : Int32) := by decide
  rw [r806]
  show Rch p e below T804 (mkF m 48 #[.val (.ref a5), .val (.ref ca), .val (.int (0 : Int32)), .val (.int (3 : Int32)), .val .null, .val (.ref t_792)] [(.int (1 : Int32)), (.ref a5)]) _
  obtain ⟨T807, h807, X807, e807, W807, st807⟩ := putF X804 hx hZ hown (host := "") (Or.inl (hw _ (List.mem_of_getElem? (i := 22) rfl))) Via.refl K804 f798 f797 (Or.inr ⟨(hw _ (List.mem_of_getElem? (i := 18) rfl)), rfl, hnm⟩) (hw _ (List.mem_of_getElem? (i := 3) rfl)) (ty := .byte) (by decide) rfl rfl (g := (mkF m 48 #[.val (.ref a5), .val (.ref ca), .val (.int (0 : Int32)), .val (.int (3 : Int32)), .val .null, .val (.ref t_792)] [(.int (1 : Int32)), (.ref a5)])) rfl rfl (hb hby djdk42m149_48)
  have N808 := Fr.snoc X807 N805 ga
  have f809 : Exa Z h807 a5 "java/lang/String" := f797.wr W807
  have f810 : Fld Z h807 a5 "java/lang/String" "coder" "B" (.int (1 : Int32)) := f798.same W807
  have f811 : Fld Z h807 a5 "java/lang/String" "value" "[B" .null := f799.other W807 (Or.inr (slot_ne (t := (.array .byte)) (t' := .byte) (Or.inr (hw _ (List.mem_of_getElem? (i := 17) rfl))) (Or.inr (hw _ (List.mem_of_getElem? (i := 18) rfl))) (by decide) (by decide) (by decide)))
  have f812 : Arv Z h807 ca kc .char (3 : Int32) [(.int cc0), (.int cc1), (.int cc2)] (.int (0 : Int32)) := f800.other W807 (Ne.symm nca)
  have f813 : Arv Z h807 t_792 kt_792 .byte (6 : Int32) [(.int (own_lo cc0)), (.int (own_hi cc0)), (.int (own_lo cc1)), (.int (own_hi cc1)), (.int (own_lo cc2)), (.int (own_hi cc2))] (.int (0 : Int32)) := fq792_0.other W807 (Ne.symm ne794)
  have Old814 := Old801.wr W807 ga
  have Z815 := Nat.le_trans Z803 (Keep.of_wr W807).1
  have Kp816 : Keep h0 h807 [a5] := Kp802.wr W807 (Or.inl (List.mem_of_getElem? (i := 0) rfl))
  refine Rch.st (fun _ k => st807 _ k) ?_
  show Rch p e below T807 (mkF m 51 #[.val (.ref a5), .val (.ref ca), .val (.int (0 : Int32)), .val (.int (3 : Int32)), .val .null, .val (.ref t_792)] []) _
  refine w_aloadN (pc' := 52) X807 hx hby djdk42m149_51 rfl rfl rfl ?_
  refine w_aload (pc' := 54) X807 hx hby djdk42m149_52 rfl rfl rfl ?_
  obtain ⟨T817, h817, X817, e817, W817, st817⟩ := putF X807 hx hZ hown (host := "") (Or.inl (hw _ (List.mem_of_getElem? (i := 21) rfl))) Via.refl e807 f811 f809 (Or.inr ⟨(hw _ (List.mem_of_getElem? (i := 17) rfl)), rfl, hnm⟩) (hw _ (List.mem_of_getElem? (i := 3) rfl)) (ty := (.array .byte)) (by decide) rfl rfl (g := (mkF m 54 #[.val (.ref a5), .val (.ref ca), .val (.int (0 : Int32)), .val (.int (3 : Int32)), .val .null, .val (.ref t_792)] [(.ref t_792), (.ref a5)])) rfl rfl (hb hby djdk42m149_54)
  have N818 := Fr.snoc X817 N808 ga
  have f819 : Exa Z h817 a5 "java/lang/String" := f809.wr W817
  have f820 : Fld Z h817 a5 "java/lang/String" "coder" "B" (.int (1 : Int32)) := f810.other W817 (Or.inr (slot_ne (t := .byte) (t' := (.array .byte)) (Or.inr (hw _ (List.mem_of_getElem? (i := 18) rfl))) (Or.inr (hw _ (List.mem_of_getElem? (i := 17) rfl))) (by decide) (by decide) (by decide)))
  have f821 : Fld Z h817 a5 "java/lang/String" "value" "[B" (.ref t_792) := f811.same W817
  have f822 : Arv Z h817 ca kc .char (3 : Int32) [(.int cc0), (.int cc1), (.int cc2)] (.int (0 : Int32)) := f812.other W817 (Ne.symm nca)
  have f823 : Arv Z h817 t_792 kt_792 .byte (6 : Int32) [(.int (own_lo cc0)), (.int (own_hi cc0)), (.int (own_lo cc1)), (.int (own_hi cc1)), (.int (own_lo cc2)), (.int (own_hi cc2))] (.int (0 : Int32)) := f813.other W817 (Ne.symm ne794)
  have Old824 := Old814.wr W817 ga
  have Z825 := Nat.le_trans Z815 (Keep.of_wr W817).1
  have Kp826 : Keep h0 h817 [a5] := Kp816.wr W817 (Or.inl (List.mem_of_getElem? (i := 0) rfl))
  refine Rch.st (fun _ k => st817 _ k) ?_
  show Rch p e below T817 (mkF m 57 #[.val (.ref a5), .val (.ref ca), .val (.int (0 : Int32)), .val (.int (3 : Int32)), .val .null, .val (.ref t_792)] []) _
  exact Rch.ret0 X817 hx Bd.returns (hb hby djdk42m149_57) (by rw [e817]; exact ⟨t_792, kt_792, rfl, N818, Kp826, (Nat.le_trans K00.1 pq792_0), f820, f821, f823⟩) (by decide) (by decide)

theorem ef_rm_init1_3_2 (m : MethodId) (G1 : Int32) (a5 : Addr) (ca : Addr) (kc : ClassId) (cc0 : Int32) (cc1 : Int32) (cc2 : Int32)  : entryFrame m #[(.ref a5), (.ref ca)] 2 = mkF m 0 #[.val (.ref a5), .val (.ref ca)] [] := by  first | (simp [entryFrame, mkF, argsToLocals, Value.category, maxLocals]; done) | rfl
def Q_rm_init1_3_2 (Z : State) (G1 : Int32) (a5 : Addr) (ca : Addr) (kc : ClassId) (cc0 : Int32) (cc1 : Int32) (cc2 : Int32) (h0 : Heap) (n0 : Nat) (v : Option Value) (h : Heap) (L : List Loc) : Prop := ∃ (t : Addr) (kt : ClassId), (v = none) ∧ (Fr n0 L) ∧ (Keep h0 h [a5]) ∧ (h0.size ≤ t) ∧ (Fld Z h a5 "java/lang/String" "coder" "B" (.int (1 : Int32))) ∧ (Fld Z h a5 "java/lang/String" "value" "[B" (.ref t)) ∧ (Arv Z h t kt .byte (6 : Int32) [(.int (own_lo cc0)), (.int (own_hi cc0)), (.int (own_lo cc1)), (.int (own_hi cc1)), (.int (own_lo cc2)), (.int (own_hi cc2))] (.int (0 : Int32)))
set_option maxRecDepth 65536 in
set_option maxHeartbeats 40000000 in
theorem rm_init1_3_2 (l : Launch) (Z : State) (a0 : Array Value) (hw : ∀ d ∈ tables_1, d.before a0 Z = true) (ws : List Jvm.Cond) (G1 : Int32) (a5 : Addr) (ca : Addr) (kc : ClassId) (cc0 : Int32) (cc1 : Int32) (cc2 : Int32) (h0 : Heap) (n0 : Nat) (Z0 : n0 ≤ h0.size) (O2 : Sta Z Z.heap "java/lang/String" "COMPACT_STRINGS" "Z" (.int G1)) (P5 : ¬ G1 = 0) (SA : Sta Z Z.heap "java/lang/StringUTF16" "$assertionsDisabled" "Z" (.int 1)) (SH : Sta Z Z.heap "java/lang/StringUTF16" "HI_BYTE_SHIFT" "I" (.int 0)) (SL : Sta Z Z.heap "java/lang/StringUTF16" "LO_BYTE_SHIFT" "I" (.int 8)) (f5 : Exa Z h0 a5 "java/lang/String") (f6 : Fld Z h0 a5 "java/lang/String" "coder" "B" (.int (0 : Int32))) (f7 : Fld Z h0 a5 "java/lang/String" "value" "[B" .null) (f8 : Arv Z h0 ca kc .char (3 : Int32) [(.int cc0), (.int cc1), (.int cc2)] (.int (0 : Int32))) (ga : n0 ≤ a5) (nca : a5 ≠ ca) (hg0 : ¬ (255 : Int32) < cc0) (hg1 : ¬ (255 : Int32) < cc1) (hx2 : (255 : Int32) < cc2) (hn2 : ¬ cc2 < 0) (hm2 : ¬ (65535 : Int32) < cc2) (Old0 : OldL Z n0 h0) :
    MetFree l (⟨"java/lang/String", "<init>", "([C)V"⟩ : MethodName) (head1 (Jvm.Cond.code (⟨"java/lang/String", "<init>", "([C)V"⟩ : MethodName) jdk_42_method_3_code 2 none :: ws) ({ frames := 5, cells := 2, slots := 9, locals := 74 } : Room)) (fun a U => a = #[(.ref a5), (.ref ca)] ∧ Z.Warmed39 U.vm ∧ U.heap = h0) (fun _ _ _ _ _ => True) (fun _ U o U' => ∃ v L, o = .returned v ∧ Q_rm_init1_3_2 Z G1 a5 ca kc cc0 cc1 cc2 h0 n0 v U'.heap L ∧ FrameEnd U o U' L ({ frames := 5, cells := 2, slots := 9, locals := 74 } : Room).cells ({ frames := 5, cells := 2, slots := 9, locals := 74 } : Room).slots) := by
  refine MetFree.of_bodySF (plainFor_of_name pn_java_lang_String) hisR ?_
  intro p e s m args below meth c s₁ Bd hml0 hP hK
  obtain ⟨rfl, hZ, hh⟩ := hP
  have hx := Bd.exec
  have hby := Bd.bytes
  have hml : c.maxLocals = 2 := hml0
  have hown : s.vm.findClass "java/lang/String" = some m.cls := findClass_of_methodNamed Bd.named
  have hnm := (name_of_methodNamed Bd.named Bd.method).1
  have X0 : Stand p l e ({ frames := 5, cells := 2, slots := 9, locals := 74 } : Room) s m #[(.ref a5), (.ref ca)] below meth c s₁ [] 0 0 := Stand.of_body Bd
  have e0 : s₁.heap = h0 := by rw [← hh, Bd.state]; rfl
  have N0 := Fr.nil n0
  have K00 : Keep h0 h0 [a5] := Keep.refl _ _
  have hlk0 : meth.locks = false := by first | assumption | exact BodyLoose.notSynchronized (by assumption) | exact Body.notSynchronized (by assumption)
  show Rch p e below s₁ (entryFrame m #[(.ref a5), (.ref ca)] 2) (FinP s (Q_rm_init1_3_2 Z G1 a5 ca kc cc0 cc1 cc2 h0 n0) 2 9)
  refine Rch.cast (ef_rm_init1_3_2 m G1 a5 ca kc cc0 cc1 cc2) ?_
  show Rch p e below s₁ (mkF m 0 #[.val (.ref a5), .val (.ref ca)] []) _
  refine w_aloadN (pc' := 1) X0 hx hby djdk42m3_0 rfl rfl rfl ?_
  refine w_aloadN (pc' := 2) X0 hx hby djdk42m3_1 rfl rfl rfl ?_
  refine w_iconst (pc' := 3) (v := 0) X0 hx hby djdk42m3_2 rfl rfl ?_
  refine w_aloadN (pc' := 4) X0 hx hby djdk42m3_3 rfl rfl rfl ?_
  refine Rch.st (fun _ k => own_alen X0 hx hZ e0 f8 rfl rfl (hb hby djdk42m3_4) k) ?_
  show Rch p e below s₁ (mkF m 5 #[.val (.ref a5), .val (.ref ca)] [(.int (3 : Int32)), (.int (0 : Int32)), (.ref ca), (.ref a5)]) _
  refine w_aconstNull (pc' := 6) X0 hx hby djdk42m3_5 rfl ?_
  obtain ⟨_, _, ⟨T827, L827, k827, n827⟩, -, X827, ⟨Lc827, hQ827, l827, y827, z827⟩, st827⟩ := X0.specialBack hx (y := (⟨"java/lang/String", "<init>", "([CIILjava/lang/Void;)V"⟩ : MethodName)) rfl hown (mvT hZ (hw _ (List.mem_of_getElem? (i := 8) rfl))) (mvT hZ (hw _ (List.mem_of_getElem? (i := 9) rfl))) (mvT hZ (hw _ (List.mem_of_getElem? (i := 11) rfl))) (by decide) (backOf (W := 0) (rm_init4_3_2 l Z a0 hw [] G1 a5 ca kc cc0 cc1 cc2 h0 n0 Z0 (O2) (P5) (SA) (SH) (SL) f5 f6 f7 f8 (ga) (nca) (hg0) (hg1) (hx2) (hn2) (hm2) Old0) hZ (hw _ (List.mem_of_getElem? (i := 11) rfl)) (hw _ (List.mem_of_getElem? (i := 4) rfl)) (by decide) (by decide)) (g := (mkF m 6 #[.val (.ref a5), .val (.ref ca)] [.null, (.int (3 : Int32)), (.int (0 : Int32)), (.ref ca), (.ref a5)])) rfl (by rw [hml]; rfl) (Steps.refl _) (a := a5) (argsL := [(.ref ca), (.int (0 : Int32)), (.int (3 : Int32)), .null]) (rest := []) (lenOf pd___CIILjava_lang_Void__V rfl) rfl (by show 2 * 0 + _ ≤ _; exact Nat.le_of_eq rfl) (hb hby djdk42m3_6) (fun _ _ => ⟨rfl, e0, (by decide : 0 + 2 ≤ _), (by decide : 0 + 9 ≤ _)⟩)
  dsimp only [Pt.U, Pt.locs, Pt.cells, Pt.slots] at X827 l827 y827 z827 st827 hQ827
  subst l827 y827 z827
  obtain ⟨t_827, kt_827, rfl, NQ827, K827, pq827_0, fq827_0, fq827_1, fq827_2⟩ := hQ827
  have N828 := Fr.app N0 NQ827
  have ne829 : a5 ≠ t_827 := Nat.ne_of_lt (Nat.lt_of_lt_of_le f5.lt pq827_0)
  have ne830 : ca ≠ t_827 := Nat.ne_of_lt (Nat.lt_of_lt_of_le f8.lt pq827_0)
  have ge831 : n0 ≤ t_827 := Nat.le_trans Z0 pq827_0
  have f832 : Exa Z T827.heap a5 "java/lang/String" := f5.keep K827
  have f833 : Arv Z T827.heap ca kc .char (3 : Int32) [(.int cc0), (.int cc1), (.int cc2)] (.int (0 : Int32)) := f8.keep K827 (ninS (Ne.symm nca) nin0)
  have Old834 := Old0.keep K827 (allS ga all0)
  have Kp835 : Keep h0 T827.heap [a5] := K00.trans K827 (allS (Or.inl (List.mem_of_getElem? (i := 0) rfl)) all0)
  have Z836 := Nat.le_trans Z0 K827.1
  refine Rch.st (fun _ k => st827.trans k) ?_
  show Rch p e below T827 (mkF m 9 #[.val (.ref a5), .val (.ref ca)] []) _
  exact Rch.ret0 X827 hx Bd.returns (hb hby djdk42m3_9) (by rw [(rfl : T827.heap = T827.heap)]; exact ⟨t_827, kt_827, rfl, N828, Kp835, (Nat.le_trans K00.1 pq827_0), fq827_0, fq827_1, fq827_2⟩) (by decide) (by decide)

def own_mm (x y : Int32) : Int32 := if x = y then -1 else 0
theorem djdk48m14_0 : decode jdk_48_method_14_code 0 = .ok (.iconst 0, 1) := by decide +kernel
theorem djdk48m14_1 : decode jdk_48_method_14_code 1 = .ok (.istore 5, 2) := by decide +kernel
theorem djdk48m14_3 : decode jdk_48_method_14_code 3 = .ok (.iload 4, 2) := by decide +kernel
theorem djdk48m14_5 : decode jdk_48_method_14_code 5 = .ok (.bipush 7, 2) := by decide +kernel
theorem djdk48m14_7 : decode jdk_48_method_14_code 7 = .ok (.if_icmp .le 63, 3) := by decide +kernel
theorem djdk48m14_10 : decode jdk_48_method_14_code 10 = .ok (.aload_n 0, 1) := by decide +kernel
theorem djdk48m14_11 : decode jdk_48_method_14_code 11 = .ok (.iload_n 1, 1) := by decide +kernel
theorem djdk48m14_12 : decode jdk_48_method_14_code 12 = .ok (.baload, 1) := by decide +kernel
theorem djdk48m14_13 : decode jdk_48_method_14_code 13 = .ok (.aload_n 2, 1) := by decide +kernel
theorem djdk48m14_14 : decode jdk_48_method_14_code 14 = .ok (.iload_n 3, 1) := by decide +kernel
theorem djdk48m14_15 : decode jdk_48_method_14_code 15 = .ok (.baload, 1) := by decide +kernel
theorem djdk48m14_16 : decode jdk_48_method_14_code 16 = .ok (.if_icmp .eq 5, 3) := by decide +kernel
theorem djdk48m14_19 : decode jdk_48_method_14_code 19 = .ok (.iconst 0, 1) := by decide +kernel
theorem djdk48m14_20 : decode jdk_48_method_14_code 20 = .ok (.ireturn, 1) := by decide +kernel
theorem djdk48m14_21 : decode jdk_48_method_14_code 21 = .ok (.getstatic 126, 3) := by decide +kernel
theorem djdk48m14_24 : decode jdk_48_method_14_code 24 = .ok (.iload_n 1, 1) := by decide +kernel
theorem djdk48m14_25 : decode jdk_48_method_14_code 25 = .ok (.iadd, 1) := by decide +kernel
theorem djdk48m14_26 : decode jdk_48_method_14_code 26 = .ok (.istore 6, 2) := by decide +kernel
theorem djdk48m14_28 : decode jdk_48_method_14_code 28 = .ok (.getstatic 126, 3) := by decide +kernel
theorem djdk48m14_31 : decode jdk_48_method_14_code 31 = .ok (.iload_n 3, 1) := by decide +kernel
theorem djdk48m14_32 : decode jdk_48_method_14_code 32 = .ok (.iadd, 1) := by decide +kernel
theorem djdk48m14_33 : decode jdk_48_method_14_code 33 = .ok (.istore 7, 2) := by decide +kernel
theorem djdk48m14_35 : decode jdk_48_method_14_code 35 = .ok (.aload_n 0, 1) := by decide +kernel
theorem djdk48m14_36 : decode jdk_48_method_14_code 36 = .ok (.iload 6, 2) := by decide +kernel
theorem djdk48m14_38 : decode jdk_48_method_14_code 38 = .ok (.i2l, 1) := by decide +kernel
theorem djdk48m14_39 : decode jdk_48_method_14_code 39 = .ok (.aload_n 2, 1) := by decide +kernel
theorem djdk48m14_40 : decode jdk_48_method_14_code 40 = .ok (.iload 7, 2) := by decide +kernel
theorem djdk48m14_42 : decode jdk_48_method_14_code 42 = .ok (.i2l, 1) := by decide +kernel
theorem djdk48m14_43 : decode jdk_48_method_14_code 43 = .ok (.iload 4, 2) := by decide +kernel
theorem djdk48m14_45 : decode jdk_48_method_14_code 45 = .ok (.getstatic 129, 3) := by decide +kernel
theorem djdk48m14_48 : decode jdk_48_method_14_code 48 = .ok (.invokestatic 122, 3) := by decide +kernel
theorem djdk48m14_51 : decode jdk_48_method_14_code 51 = .ok (.istore 5, 2) := by decide +kernel
theorem djdk48m14_53 : decode jdk_48_method_14_code 53 = .ok (.iload 5, 2) := by decide +kernel
theorem djdk48m14_55 : decode jdk_48_method_14_code 55 = .ok (.ifCond .lt 6, 3) := by decide +kernel
theorem djdk48m14_58 : decode jdk_48_method_14_code 58 = .ok (.iload 5, 2) := by decide +kernel
theorem djdk48m14_60 : decode jdk_48_method_14_code 60 = .ok (.ireturn, 1) := by decide +kernel
theorem djdk48m14_61 : decode jdk_48_method_14_code 61 = .ok (.iload 4, 2) := by decide +kernel
theorem djdk48m14_63 : decode jdk_48_method_14_code 63 = .ok (.iload 5, 2) := by decide +kernel
theorem djdk48m14_65 : decode jdk_48_method_14_code 65 = .ok (.iconst (-1), 1) := by decide +kernel
theorem djdk48m14_66 : decode jdk_48_method_14_code 66 = .ok (.ixor, 1) := by decide +kernel
theorem djdk48m14_67 : decode jdk_48_method_14_code 67 = .ok (.isub, 1) := by decide +kernel
theorem djdk48m14_68 : decode jdk_48_method_14_code 68 = .ok (.istore 5, 2) := by decide +kernel
theorem djdk48m14_70 : decode jdk_48_method_14_code 70 = .ok (.iload 5, 2) := by decide +kernel
theorem djdk48m14_72 : decode jdk_48_method_14_code 72 = .ok (.iload 4, 2) := by decide +kernel
theorem djdk48m14_74 : decode jdk_48_method_14_code 74 = .ok (.if_icmp .ge 27, 3) := by decide +kernel
theorem djdk48m14_77 : decode jdk_48_method_14_code 77 = .ok (.aload_n 0, 1) := by decide +kernel
theorem djdk48m14_78 : decode jdk_48_method_14_code 78 = .ok (.iload_n 1, 1) := by decide +kernel
theorem djdk48m14_79 : decode jdk_48_method_14_code 79 = .ok (.iload 5, 2) := by decide +kernel
theorem djdk48m14_81 : decode jdk_48_method_14_code 81 = .ok (.iadd, 1) := by decide +kernel
theorem djdk48m14_82 : decode jdk_48_method_14_code 82 = .ok (.baload, 1) := by decide +kernel
theorem djdk48m14_83 : decode jdk_48_method_14_code 83 = .ok (.aload_n 2, 1) := by decide +kernel
theorem djdk48m14_84 : decode jdk_48_method_14_code 84 = .ok (.iload_n 3, 1) := by decide +kernel
theorem djdk48m14_85 : decode jdk_48_method_14_code 85 = .ok (.iload 5, 2) := by decide +kernel
theorem djdk48m14_87 : decode jdk_48_method_14_code 87 = .ok (.iadd, 1) := by decide +kernel
theorem djdk48m14_88 : decode jdk_48_method_14_code 88 = .ok (.baload, 1) := by decide +kernel
theorem djdk48m14_89 : decode jdk_48_method_14_code 89 = .ok (.if_icmp .eq 6, 3) := by decide +kernel
theorem djdk48m14_92 : decode jdk_48_method_14_code 92 = .ok (.iload 5, 2) := by decide +kernel
theorem djdk48m14_94 : decode jdk_48_method_14_code 94 = .ok (.ireturn, 1) := by decide +kernel
theorem djdk48m14_95 : decode jdk_48_method_14_code 95 = .ok (.iinc 5 1, 3) := by decide +kernel
theorem djdk48m14_98 : decode jdk_48_method_14_code 98 = .ok (.goto (-28), 3) := by decide +kernel
theorem djdk48m14_101 : decode jdk_48_method_14_code 101 = .ok (.iconst (-1), 1) := by decide +kernel
theorem djdk48m14_102 : decode jdk_48_method_14_code 102 = .ok (.ireturn, 1) := by decide +kernel
theorem pn_jdk_internal_util_ArraysSupport : plainName "jdk/internal/util/ArraysSupport" = true := by first | (simp [plainName, overriddenIn]; done) | decide +kernel
theorem ef_rm_mis (m : MethodId) (bb : Addr) (kb : ClassId) (nn : Int32) (vs : List Value) (dd : Value) (pb : Addr) (kp : ClassId) (pc0 : Int32) (x0 : Int32)  : entryFrame m #[(.ref bb), (.int (0 : Int32)), (.ref pb), (.int (0 : Int32)), (.int (1 : Int32))] 8 = mkF m 0 #[.val (.ref bb), .val (.int (0 : Int32)), .val (.ref pb), .val (.int (0 : Int32)), .val (.int (1 : Int32)), .unset, .unset, .unset] [] := by  first | (simp [entryFrame, mkF, argsToLocals, Value.category, maxLocals]; done) | rfl
def Q_rm_mis (Z : State) (bb : Addr) (kb : ClassId) (nn : Int32) (vs : List Value) (dd : Value) (pb : Addr) (kp : ClassId) (pc0 : Int32) (x0 : Int32) (h0 : Heap) (n0 : Nat) (v : Option Value) (h : Heap) (L : List Loc) : Prop := (v = some (.int (own_mm x0 pc0))) ∧ (Fr n0 L) ∧ (h = h0)
set_option maxRecDepth 65536 in
set_option maxHeartbeats 40000000 in
theorem rm_mis (l : Launch) (Z : State) (a0 : Array Value) (hw : ∀ d ∈ tables_1, d.before a0 Z = true) (ws : List Jvm.Cond) (bb : Addr) (kb : ClassId) (nn : Int32) (vs : List Value) (dd : Value) (pb : Addr) (kp : ClassId) (pc0 : Int32) (x0 : Int32) (h0 : Heap) (n0 : Nat) (Z0 : n0 ≤ h0.size) (f0 : Arv Z h0 bb kb .byte nn vs dd) (f1 : Arv Z h0 pb kp .byte (1 : Int32) [(.int pc0)] (.int (0 : Int32))) (hn : (0 : Int32) < nn) (hv : vs.getD 0 dd = .int x0) :
    MetFree l (⟨"jdk/internal/util/ArraysSupport", "mismatch", "([BI[BII)I"⟩ : MethodName) (head1 (Jvm.Cond.code (⟨"jdk/internal/util/ArraysSupport", "mismatch", "([BI[BII)I"⟩ : MethodName) jdk_48_method_14_code 8 (some .int) :: ws) ({ frames := 0, cells := 0, slots := 0, locals := 0 } : Room)) (fun a U => a = #[(.ref bb), (.int (0 : Int32)), (.ref pb), (.int (0 : Int32)), (.int (1 : Int32))] ∧ Z.Warmed39 U.vm ∧ U.heap = h0) (fun _ _ _ _ _ => True) (fun _ U o U' => ∃ v L, o = .returned v ∧ Q_rm_mis Z bb kb nn vs dd pb kp pc0 x0 h0 n0 v U'.heap L ∧ FrameEnd U o U' L ({ frames := 0, cells := 0, slots := 0, locals := 0 } : Room).cells ({ frames := 0, cells := 0, slots := 0, locals := 0 } : Room).slots) := by
  refine MetFree.of_bodySF (plainFor_of_name pn_jdk_internal_util_ArraysSupport) hisR ?_
  intro p e s m args below meth c s₁ Bd hml0 hP hK
  obtain ⟨rfl, hZ, hh⟩ := hP
  have hx := Bd.exec
  have hby := Bd.bytes
  have hml : c.maxLocals = 8 := hml0
  have hown : s.vm.findClass "jdk/internal/util/ArraysSupport" = some m.cls := findClass_of_methodNamed Bd.named
  have hnm := (name_of_methodNamed Bd.named Bd.method).1
  have X0 : Stand p l e ({ frames := 0, cells := 0, slots := 0, locals := 0 } : Room) s m #[(.ref bb), (.int (0 : Int32)), (.ref pb), (.int (0 : Int32)), (.int (1 : Int32))] below meth c s₁ [] 0 0 := Stand.of_body Bd
  have e0 : s₁.heap = h0 := by rw [← hh, Bd.state]; rfl
  have N0 := Fr.nil n0
  have K00 : Keep h0 h0 [] := Keep.refl _ _
  have hlk0 : meth.locks = false := by first | assumption | exact BodyLoose.notSynchronized (by assumption) | exact Body.notSynchronized (by assumption)
  show Rch p e below s₁ (entryFrame m #[(.ref bb), (.int (0 : Int32)), (.ref pb), (.int (0 : Int32)), (.int (1 : Int32))] 8) (FinP s (Q_rm_mis Z bb kb nn vs dd pb kp pc0 x0 h0 n0) 0 0)
  refine Rch.cast (ef_rm_mis m bb kb nn vs dd pb kp pc0 x0) ?_
  show Rch p e below s₁ (mkF m 0 #[.val (.ref bb), .val (.int (0 : Int32)), .val (.ref pb), .val (.int (0 : Int32)), .val (.int (1 : Int32)), .unset, .unset, .unset] []) _
  refine w_iconst (pc' := 1) (v := 0) X0 hx hby djdk48m14_0 rfl rfl ?_
  refine w_istore (pc' := 3) (l' := #[.val (.ref bb), .val (.int (0 : Int32)), .val (.ref pb), .val (.int (0 : Int32)), .val (.int (1 : Int32)), .val (.int (0 : Int32)), .unset, .unset]) X0 hx hby djdk48m14_1 rfl rfl ?_
  refine w_iload (pc' := 5) X0 hx hby djdk48m14_3 rfl rfl ?_
  refine w_bipush (pc' := 7) (v := 7) X0 hx hby djdk48m14_5 rfl rfl ?_
  refine w_icmpYes (pc' := 70) X0 hx hby djdk48m14_7 (XT.ii_le_t (by decide)) (by decide) ?_
  refine w_iload (pc' := 72) X0 hx hby djdk48m14_70 rfl rfl ?_
  refine w_iload (pc' := 74) X0 hx hby djdk48m14_72 rfl rfl ?_
  refine w_icmpNo (pc' := 77) X0 hx hby djdk48m14_74 (XT.ii_ge_f (by decide)) rfl ?_
  refine w_aloadN (pc' := 78) X0 hx hby djdk48m14_77 rfl rfl rfl ?_
  refine w_iloadN (pc' := 79) X0 hx hby djdk48m14_78 rfl rfl ?_
  refine w_iload (pc' := 81) X0 hx hby djdk48m14_79 rfl rfl ?_
  refine w_iadd (pc' := 82) X0 hx hby djdk48m14_81 rfl ?_
  have r837 : ((0 : Int32) + (0 : Int32)) = (0 : Int32) := by decide
  rw [r837]
  show Rch p e below s₁ (mkF m 82 #[.val (.ref bb), .val (.int (0 : Int32)), .val (.ref pb), .val (.int (0 : Int32)), .val (.int (1 : Int32)), .val (.int (0 : Int32)), .unset, .unset] [(.int (0 : Int32)), (.ref bb)]) _
  refine Rch.st (fun _ k => own_ldB X0 hx hZ e0 f0 (j := (0 : Int32)) (⟨by decide, hn⟩) (hv) rfl rfl (hb hby djdk48m14_82) k) ?_
  show Rch p e below s₁ (mkF m 83 #[.val (.ref bb), .val (.int (0 : Int32)), .val (.ref pb), .val (.int (0 : Int32)), .val (.int (1 : Int32)), .val (.int (0 : Int32)), .unset, .unset] [(.int x0)]) _
  refine w_aloadN (pc' := 84) X0 hx hby djdk48m14_83 rfl rfl rfl ?_
  refine w_iloadN (pc' := 85) X0 hx hby djdk48m14_84 rfl rfl ?_
  refine w_iload (pc' := 87) X0 hx hby djdk48m14_85 rfl rfl ?_
  refine w_iadd (pc' := 88) X0 hx hby djdk48m14_87 rfl ?_
  have r838 : ((0 : Int32) + (0 : Int32)) = (0 : Int32) := by decide
  rw [r838]
  show Rch p e below s₁ (mkF m 88 #[.val (.ref bb), .val (.int (0 : Int32)), .val (.ref pb), .val (.int (0 : Int32)), .val (.int (1 : Int32)), .val (.int (0 : Int32)), .unset, .unset] [(.int (0 : Int32)), (.ref pb), (.int x0)]) _
  refine Rch.st (fun _ k => own_ldB X0 hx hZ e0 f1 (j := (0 : Int32)) ⟨by decide, by decide⟩ (by rfl) rfl rfl (hb hby djdk48m14_88) k) ?_
  show Rch p e below s₁ (mkF m 89 #[.val (.ref bb), .val (.int (0 : Int32)), .val (.ref pb), .val (.int (0 : Int32)), .val (.int (1 : Int32)), .val (.int (0 : Int32)), .unset, .unset] [(.int pc0), (.int x0)]) _
  by_cases c839 : x0 = pc0
  · skip
    refine w_icmpYes (pc' := 95) X0 hx hby djdk48m14_89 (XT.ii_eq_t (c839)) (by decide) ?_
    refine w_iinc (pc' := 98) (w := (1 : Int32)) (l' := #[.val (.ref bb), .val (.int (0 : Int32)), .val (.ref pb), .val (.int (0 : Int32)), .val (.int (1 : Int32)), .val (.int (1 : Int32)), .unset, .unset]) X0 hx hby djdk48m14_95 rfl (by decide) rfl rfl ?_
    refine w_goto (pc' := 70) X0 hx hby djdk48m14_98 (by decide) ?_
    refine w_iload (pc' := 72) X0 hx hby djdk48m14_70 rfl rfl ?_
    refine w_iload (pc' := 74) X0 hx hby djdk48m14_72 rfl rfl ?_
    refine w_icmpYes (pc' := 101) X0 hx hby djdk48m14_74 (XT.ii_ge_t (by decide)) (by decide) ?_
    refine w_iconst (pc' := 102) (v := (-1)) X0 hx hby djdk48m14_101 rfl rfl ?_
    exact Rch.retV X0 hx Bd.returns rfl (Or.inl ⟨rfl, by simp, _, rfl⟩) (hb hby djdk48m14_102) (by rw [e0]; exact ⟨by simp [own_mm, c839], N0, rfl⟩) (by decide) (by decide)
  · skip
    refine w_icmpNo (pc' := 92) X0 hx hby djdk48m14_89 (XT.ii_eq_f (c839)) rfl ?_
    refine w_iload (pc' := 94) X0 hx hby djdk48m14_92 rfl rfl ?_
    exact Rch.retV X0 hx Bd.returns rfl (Or.inl ⟨rfl, by simp, _, rfl⟩) (hb hby djdk48m14_94) (by rw [e0]; exact ⟨by simp [own_mm, c839], N0, rfl⟩) (by decide) (by decide)

theorem djdk42m75_0 : decode jdk_42_method_75_code 0 = .ok (.iload_n 2, 1) := by decide +kernel
theorem djdk42m75_1 : decode jdk_42_method_75_code 1 = .ok (.ifCond .lt 16, 3) := by decide +kernel
theorem djdk42m75_4 : decode jdk_42_method_75_code 4 = .ok (.iload_n 2, 1) := by decide +kernel
theorem djdk42m75_5 : decode jdk_42_method_75_code 5 = .ok (.aload_n 0, 1) := by decide +kernel
theorem djdk42m75_6 : decode jdk_42_method_75_code 6 = .ok (.invokevirtual 505, 3) := by decide +kernel
theorem djdk42m75_9 : decode jdk_42_method_75_code 9 = .ok (.aload_n 1, 1) := by decide +kernel
theorem djdk42m75_10 : decode jdk_42_method_75_code 10 = .ok (.invokevirtual 505, 3) := by decide +kernel
theorem djdk42m75_13 : decode jdk_42_method_75_code 13 = .ok (.isub, 1) := by decide +kernel
theorem djdk42m75_14 : decode jdk_42_method_75_code 14 = .ok (.if_icmp .le 5, 3) := by decide +kernel
theorem djdk42m75_17 : decode jdk_42_method_75_code 17 = .ok (.iconst 0, 1) := by decide +kernel
theorem djdk42m75_18 : decode jdk_42_method_75_code 18 = .ok (.ireturn, 1) := by decide +kernel
theorem djdk42m75_19 : decode jdk_42_method_75_code 19 = .ok (.aload_n 0, 1) := by decide +kernel
theorem djdk42m75_20 : decode jdk_42_method_75_code 20 = .ok (.getfield 9, 3) := by decide +kernel
theorem djdk42m75_23 : decode jdk_42_method_75_code 23 = .ok (.astore_n 3, 1) := by decide +kernel
theorem djdk42m75_24 : decode jdk_42_method_75_code 24 = .ok (.aload_n 1, 1) := by decide +kernel
theorem djdk42m75_25 : decode jdk_42_method_75_code 25 = .ok (.getfield 9, 3) := by decide +kernel
theorem djdk42m75_28 : decode jdk_42_method_75_code 28 = .ok (.astore 4, 2) := by decide +kernel
theorem djdk42m75_30 : decode jdk_42_method_75_code 30 = .ok (.iconst 0, 1) := by decide +kernel
theorem djdk42m75_31 : decode jdk_42_method_75_code 31 = .ok (.istore 5, 2) := by decide +kernel
theorem djdk42m75_33 : decode jdk_42_method_75_code 33 = .ok (.aload 4, 2) := by decide +kernel
theorem djdk42m75_35 : decode jdk_42_method_75_code 35 = .ok (.arraylength, 1) := by decide +kernel
theorem djdk42m75_36 : decode jdk_42_method_75_code 36 = .ok (.istore 6, 2) := by decide +kernel
theorem djdk42m75_38 : decode jdk_42_method_75_code 38 = .ok (.aload_n 0, 1) := by decide +kernel
theorem djdk42m75_39 : decode jdk_42_method_75_code 39 = .ok (.invokevirtual 335, 3) := by decide +kernel
theorem djdk42m75_42 : decode jdk_42_method_75_code 42 = .ok (.istore 7, 2) := by decide +kernel
theorem djdk42m75_44 : decode jdk_42_method_75_code 44 = .ok (.iload 7, 2) := by decide +kernel
theorem djdk42m75_46 : decode jdk_42_method_75_code 46 = .ok (.aload_n 1, 1) := by decide +kernel
theorem djdk42m75_47 : decode jdk_42_method_75_code 47 = .ok (.invokevirtual 335, 3) := by decide +kernel
theorem djdk42m75_50 : decode jdk_42_method_75_code 50 = .ok (.if_icmp .ne 32, 3) := by decide +kernel
theorem djdk42m75_53 : decode jdk_42_method_75_code 53 = .ok (.iload 7, 2) := by decide +kernel
theorem djdk42m75_55 : decode jdk_42_method_75_code 55 = .ok (.iconst 1, 1) := by decide +kernel
theorem djdk42m75_56 : decode jdk_42_method_75_code 56 = .ok (.if_icmp .ne 7, 3) := by decide +kernel
theorem djdk42m75_59 : decode jdk_42_method_75_code 59 = .ok (.iload_n 2, 1) := by decide +kernel
theorem djdk42m75_60 : decode jdk_42_method_75_code 60 = .ok (.iconst 1, 1) := by decide +kernel
theorem djdk42m75_61 : decode jdk_42_method_75_code 61 = .ok (.ishl, 1) := by decide +kernel
theorem djdk42m75_62 : decode jdk_42_method_75_code 62 = .ok (.istore_n 2, 1) := by decide +kernel
theorem djdk42m75_63 : decode jdk_42_method_75_code 63 = .ok (.aload_n 3, 1) := by decide +kernel
theorem djdk42m75_64 : decode jdk_42_method_75_code 64 = .ok (.iload_n 2, 1) := by decide +kernel
theorem djdk42m75_65 : decode jdk_42_method_75_code 65 = .ok (.aload 4, 2) := by decide +kernel
theorem djdk42m75_67 : decode jdk_42_method_75_code 67 = .ok (.iconst 0, 1) := by decide +kernel
theorem djdk42m75_68 : decode jdk_42_method_75_code 68 = .ok (.iload 6, 2) := by decide +kernel
theorem djdk42m75_70 : decode jdk_42_method_75_code 70 = .ok (.invokestatic 607, 3) := by decide +kernel
theorem djdk42m75_73 : decode jdk_42_method_75_code 73 = .ok (.ifCond .ge 7, 3) := by decide +kernel
theorem djdk42m75_76 : decode jdk_42_method_75_code 76 = .ok (.iconst 1, 1) := by decide +kernel
theorem djdk42m75_77 : decode jdk_42_method_75_code 77 = .ok (.goto 4, 3) := by decide +kernel
theorem djdk42m75_80 : decode jdk_42_method_75_code 80 = .ok (.iconst 0, 1) := by decide +kernel
theorem djdk42m75_81 : decode jdk_42_method_75_code 81 = .ok (.ireturn, 1) := by decide +kernel
theorem djdk42m75_82 : decode jdk_42_method_75_code 82 = .ok (.iload 7, 2) := by decide +kernel
theorem djdk42m75_84 : decode jdk_42_method_75_code 84 = .ok (.ifCond .ne 5, 3) := by decide +kernel
theorem djdk42m75_87 : decode jdk_42_method_75_code 87 = .ok (.iconst 0, 1) := by decide +kernel
theorem djdk42m75_88 : decode jdk_42_method_75_code 88 = .ok (.ireturn, 1) := by decide +kernel
theorem djdk42m75_89 : decode jdk_42_method_75_code 89 = .ok (.iload 5, 2) := by decide +kernel
theorem djdk42m75_91 : decode jdk_42_method_75_code 91 = .ok (.iload 6, 2) := by decide +kernel
theorem djdk42m75_93 : decode jdk_42_method_75_code 93 = .ok (.if_icmp .ge 28, 3) := by decide +kernel
theorem djdk42m75_96 : decode jdk_42_method_75_code 96 = .ok (.aload_n 3, 1) := by decide +kernel
theorem djdk42m75_97 : decode jdk_42_method_75_code 97 = .ok (.iload_n 2, 1) := by decide +kernel
theorem djdk42m75_98 : decode jdk_42_method_75_code 98 = .ok (.iinc 2 1, 3) := by decide +kernel
theorem djdk42m75_101 : decode jdk_42_method_75_code 101 = .ok (.invokestatic 360, 3) := by decide +kernel
theorem djdk42m75_104 : decode jdk_42_method_75_code 104 = .ok (.aload 4, 2) := by decide +kernel
theorem djdk42m75_106 : decode jdk_42_method_75_code 106 = .ok (.iload 5, 2) := by decide +kernel
theorem djdk42m75_108 : decode jdk_42_method_75_code 108 = .ok (.iinc 5 1, 3) := by decide +kernel
theorem djdk42m75_111 : decode jdk_42_method_75_code 111 = .ok (.baload, 1) := by decide +kernel
theorem djdk42m75_112 : decode jdk_42_method_75_code 112 = .ok (.sipush 255, 3) := by decide +kernel
theorem djdk42m75_115 : decode jdk_42_method_75_code 115 = .ok (.iand, 1) := by decide +kernel
theorem djdk42m75_116 : decode jdk_42_method_75_code 116 = .ok (.if_icmp .eq (-27), 3) := by decide +kernel
theorem djdk42m75_119 : decode jdk_42_method_75_code 119 = .ok (.iconst 0, 1) := by decide +kernel
theorem djdk42m75_120 : decode jdk_42_method_75_code 120 = .ok (.ireturn, 1) := by decide +kernel
theorem djdk42m75_121 : decode jdk_42_method_75_code 121 = .ok (.iconst 1, 1) := by decide +kernel
theorem djdk42m75_122 : decode jdk_42_method_75_code 122 = .ok (.ireturn, 1) := by decide +kernel
theorem ef_rm_sw2_0 (m : MethodId) (G1 : Int32) (aa : Addr) (bb : Addr) (kb : ClassId) (nn : Int32) (vs : List Value) (dd : Value) (pa : Addr) (pb : Addr) (kp : ClassId) (pc0 : Int32)  : entryFrame m #[(.ref aa), (.ref pa), (.int (0 : Int32))] 8 = mkF m 0 #[.val (.ref aa), .val (.ref pa), .val (.int (0 : Int32)), .unset, .unset, .unset, .unset, .unset] [] := by  first | (simp [entryFrame, mkF, argsToLocals, Value.category, maxLocals]; done) | rfl
def Q_rm_sw2_0 (Z : State) (G1 : Int32) (aa : Addr) (bb : Addr) (kb : ClassId) (nn : Int32) (vs : List Value) (dd : Value) (pa : Addr) (pb : Addr) (kp : ClassId) (pc0 : Int32) (h0 : Heap) (n0 : Nat) (v : Option Value) (h : Heap) (L : List Loc) : Prop := (v = some (.int (0 : Int32))) ∧ (Fr n0 L) ∧ (h = h0)
theorem pd___I : parseMethodDescriptor "()I" = some ⟨[], (some .int)⟩ := by decide +kernel
set_option maxRecDepth 65536 in
set_option maxHeartbeats 40000000 in
theorem rm_sw2_0 (l : Launch) (Z : State) (a0 : Array Value) (hw : ∀ d ∈ tables_1, d.before a0 Z = true) (ws : List Jvm.Cond) (G1 : Int32) (aa : Addr) (bb : Addr) (kb : ClassId) (nn : Int32) (vs : List Value) (dd : Value) (pa : Addr) (pb : Addr) (kp : ClassId) (pc0 : Int32) (h0 : Heap) (n0 : Nat) (Z0 : n0 ≤ h0.size) (O2 : Sta Z Z.heap "java/lang/String" "COMPACT_STRINGS" "Z" (.int G1)) (P5 : ¬ G1 = 0) (f2 : Exa Z h0 aa "java/lang/String") (f3 : Fld Z h0 aa "java/lang/String" "coder" "B" (.int (0 : Int32))) (f4 : Fld Z h0 aa "java/lang/String" "value" "[B" (.ref bb)) (f5 : Arv Z h0 bb kb .byte nn vs dd) (f6 : Exa Z h0 pa "java/lang/String") (f7 : Fld Z h0 pa "java/lang/String" "coder" "B" (.int (0 : Int32))) (f8 : Fld Z h0 pa "java/lang/String" "value" "[B" (.ref pb)) (f9 : Arv Z h0 pb kp .byte (1 : Int32) [(.int pc0)] (.int (0 : Int32))) (h1 : ((nn >>> ((0 : Int32) &&& 31)) - (1 : Int32)) < (0 : Int32)) (Old0 : OldL Z n0 h0) :
    MetFree l (⟨"java/lang/String", "startsWith", "(Ljava/lang/String;I)Z"⟩ : MethodName) (head1 (Jvm.Cond.code (⟨"java/lang/String", "startsWith", "(Ljava/lang/String;I)Z"⟩ : MethodName) jdk_42_method_75_code 8 (some .boolean) :: ws) ({ frames := 2, cells := 0, slots := 0, locals := 27 } : Room)) (fun a U => a = #[(.ref aa), (.ref pa), (.int (0 : Int32))] ∧ Z.Warmed39 U.vm ∧ U.heap = h0) (fun _ _ _ _ _ => True) (fun _ U o U' => ∃ v L, o = .returned v ∧ Q_rm_sw2_0 Z G1 aa bb kb nn vs dd pa pb kp pc0 h0 n0 v U'.heap L ∧ FrameEnd U o U' L ({ frames := 2, cells := 0, slots := 0, locals := 27 } : Room).cells ({ frames := 2, cells := 0, slots := 0, locals := 27 } : Room).slots) := by
  refine MetFree.of_bodySF (plainFor_of_name pn_java_lang_String) hisR ?_
  intro p e s m args below meth c s₁ Bd hml0 hP hK
  obtain ⟨rfl, hZ, hh⟩ := hP
  have hx := Bd.exec
  have hby := Bd.bytes
  have hml : c.maxLocals = 8 := hml0
  have hown : s.vm.findClass "java/lang/String" = some m.cls := findClass_of_methodNamed Bd.named
  have hnm := (name_of_methodNamed Bd.named Bd.method).1
  have X0 : Stand p l e ({ frames := 2, cells := 0, slots := 0, locals := 27 } : Room) s m #[(.ref aa), (.ref pa), (.int (0 : Int32))] below meth c s₁ [] 0 0 := Stand.of_body Bd
  have e0 : s₁.heap = h0 := by rw [← hh, Bd.state]; rfl
  have N0 := Fr.nil n0
  have K00 : Keep h0 h0 [] := Keep.refl _ _
  have hlk0 : meth.locks = false := by first | assumption | exact BodyLoose.notSynchronized (by assumption) | exact Body.notSynchronized (by assumption)
  show Rch p e below s₁ (entryFrame m #[(.ref aa), (.ref pa), (.int (0 : Int32))] 8) (FinP s (Q_rm_sw2_0 Z G1 aa bb kb nn vs dd pa pb kp pc0 h0 n0) 0 0)
  refine Rch.cast (ef_rm_sw2_0 m G1 aa bb kb nn vs dd pa pb kp pc0) ?_
  show Rch p e below s₁ (mkF m 0 #[.val (.ref aa), .val (.ref pa), .val (.int (0 : Int32)), .unset, .unset, .unset, .unset, .unset] []) _
  refine w_iloadN (pc' := 1) X0 hx hby djdk42m75_0 rfl rfl ?_
  refine w_ifNo (pc' := 4) X0 hx hby djdk42m75_1 (XT.i0_lt_f (by decide)) rfl ?_
  refine w_iloadN (pc' := 5) X0 hx hby djdk42m75_4 rfl rfl ?_
  refine w_aloadN (pc' := 6) X0 hx hby djdk42m75_5 rfl rfl rfl ?_
  obtain ⟨cq840, kq840, q840a, q840b, q840c⟩ := isOf hZ e0 f2
  obtain ⟨_, _, ⟨T840, L840, k840, n840⟩, -, X840, ⟨Lc840, hQ840, l840, y840, z840⟩, st840⟩ := X0.virtualBack hx (y := (⟨"java/lang/String", "length", "()I"⟩ : MethodName)) (z := (⟨"java/lang/String", "length", "()I"⟩ : MethodName)) hown (mvT hZ (hw _ (List.mem_of_getElem? (i := 38) rfl))) (mvT hZ (hw _ (List.mem_of_getElem? (i := 39) rfl))) (notFace_of_selects (args := #[]) (mvT hZ (hw _ (List.mem_of_getElem? (i := 41) rfl)))) (mvT hZ (hw _ (List.mem_of_getElem? (i := 41) rfl))) (mvT hZ (hw _ (List.mem_of_getElem? (i := 40) rfl))) (by decide) (backOf (W := 1) (rm_length l Z a0 hw [] G1 aa (0 : Int32) bb kb nn vs dd h0 n0 Z0 (O2) (P5) f3 (Or.inl rfl) f4 f5 f2 Old0) hZ (hw _ (List.mem_of_getElem? (i := 42) rfl)) (hw _ (List.mem_of_getElem? (i := 4) rfl)) (by decide) (by decide)) q840a q840c (g := (mkF m 6 #[.val (.ref aa), .val (.ref pa), .val (.int (0 : Int32)), .unset, .unset, .unset, .unset, .unset] [(.ref aa), (.int (0 : Int32))])) rfl (by rw [hml]; rfl) (Steps.refl _) (argsL := []) (rest := [(.int (0 : Int32))]) (lenOf pd___I rfl) rfl (by show 2 * 0 + _ ≤ _; exact Nat.le_of_eq rfl) (hb hby djdk42m75_6) (fun _ _ => ⟨rfl, e0, (by decide : 0 + 0 ≤ _), (by decide : 0 + 0 ≤ _)⟩)
  dsimp only [Pt.U, Pt.locs, Pt.cells, Pt.slots] at X840 l840 y840 z840 st840 hQ840
  subst l840 y840 z840
  obtain ⟨rfl, NQ840, K840⟩ := hQ840
  have N841 := Fr.app N0 NQ840
  refine Rch.st (fun _ k => st840.trans k) ?_
  show Rch p e below T840 (mkF m 9 #[.val (.ref aa), .val (.ref pa), .val (.int (0 : Int32)), .unset, .unset, .unset, .unset, .unset] [(.int (nn >>> ((0 : Int32) &&& 31))), (.int (0 : Int32))]) _
  refine w_aloadN (pc' := 10) X840 hx hby djdk42m75_9 rfl rfl rfl ?_
  obtain ⟨cq842, kq842, q842a, q842b, q842c⟩ := isOf hZ K840 f6
  obtain ⟨_, _, ⟨T842, L842, k842, n842⟩, -, X842, ⟨Lc842, hQ842, l842, y842, z842⟩, st842⟩ := X840.virtualBack hx (y := (⟨"java/lang/String", "length", "()I"⟩ : MethodName)) (z := (⟨"java/lang/String", "length", "()I"⟩ : MethodName)) hown (mvT hZ (hw _ (List.mem_of_getElem? (i := 38) rfl))) (mvT hZ (hw _ (List.mem_of_getElem? (i := 39) rfl))) (notFace_of_selects (args := #[]) (mvT hZ (hw _ (List.mem_of_getElem? (i := 41) rfl)))) (mvT hZ (hw _ (List.mem_of_getElem? (i := 41) rfl))) (mvT hZ (hw _ (List.mem_of_getElem? (i := 40) rfl))) (by decide) (backOf (W := 2) (rm_length l Z a0 hw [] G1 pa (0 : Int32) pb kp (1 : Int32) ([(.int pc0)]) (.int (0 : Int32)) h0 n0 Z0 (O2) (P5) f7 (Or.inl rfl) f8 f9 f6 Old0) hZ (hw _ (List.mem_of_getElem? (i := 42) rfl)) (hw _ (List.mem_of_getElem? (i := 4) rfl)) (by decide) (by decide)) q842a q842c (g := (mkF m 10 #[.val (.ref aa), .val (.ref pa), .val (.int (0 : Int32)), .unset, .unset, .unset, .unset, .unset] [(.ref pa), (.int (nn >>> ((0 : Int32) &&& 31))), (.int (0 : Int32))])) rfl (by rw [hml]; rfl) (Steps.refl _) (argsL := []) (rest := [(.int (nn >>> ((0 : Int32) &&& 31))), (.int (0 : Int32))]) (lenOf pd___I rfl) rfl (by show 2 * 0 + _ ≤ _; exact Nat.le_of_eq rfl) (hb hby djdk42m75_10) (fun _ _ => ⟨rfl, K840, (by decide : 0 + 0 ≤ _), (by decide : 0 + 0 ≤ _)⟩)
  dsimp only [Pt.U, Pt.locs, Pt.cells, Pt.slots] at X842 l842 y842 z842 st842 hQ842
  subst l842 y842 z842
  obtain ⟨rfl, NQ842, K842⟩ := hQ842
  have N843 := Fr.app N841 NQ842
  refine Rch.st (fun _ k => st842.trans k) ?_
  show Rch p e below T842 (mkF m 13 #[.val (.ref aa), .val (.ref pa), .val (.int (0 : Int32)), .unset, .unset, .unset, .unset, .unset] [(.int ((1 : Int32) >>> ((0 : Int32) &&& 31))), (.int (nn >>> ((0 : Int32) &&& 31))), (.int (0 : Int32))]) _
  have r844 : ((1 : Int32) >>> ((0 : Int32) &&& 31)) = (1 : Int32) := by decide
  rw [r844]
  show Rch p e below T842 (mkF m 13 #[.val (.ref aa), .val (.ref pa), .val (.int (0 : Int32)), .unset, .unset, .unset, .unset, .unset] [(.int (1 : Int32)), (.int (nn >>> ((0 : Int32) &&& 31))), (.int (0 : Int32))]) _
  refine w_isub (pc' := 14) X842 hx hby djdk42m75_13 rfl ?_
  refine w_icmpNo (pc' := 17) X842 hx hby djdk42m75_14 (XT.ii_le_f (h1)) rfl ?_
  refine w_iconst (pc' := 18) (v := 0) X842 hx hby djdk42m75_17 rfl rfl ?_
  exact Rch.retV X842 hx Bd.returns rfl (Or.inl ⟨rfl, by simp, _, rfl⟩) (hb hby djdk42m75_18) (by rw [K842]; exact ⟨rfl, N843, rfl⟩) (by decide) (by decide)

theorem djdk42m76_0 : decode jdk_42_method_76_code 0 = .ok (.aload_n 0, 1) := by decide +kernel
theorem djdk42m76_1 : decode jdk_42_method_76_code 1 = .ok (.aload_n 1, 1) := by decide +kernel
theorem djdk42m76_2 : decode jdk_42_method_76_code 2 = .ok (.iconst 0, 1) := by decide +kernel
theorem djdk42m76_3 : decode jdk_42_method_76_code 3 = .ok (.invokevirtual 624, 3) := by decide +kernel
theorem djdk42m76_6 : decode jdk_42_method_76_code 6 = .ok (.ireturn, 1) := by decide +kernel
theorem ef_rm_sw1_0 (m : MethodId) (G1 : Int32) (aa : Addr) (bb : Addr) (kb : ClassId) (nn : Int32) (vs : List Value) (dd : Value) (pa : Addr) (pb : Addr) (kp : ClassId) (pc0 : Int32)  : entryFrame m #[(.ref aa), (.ref pa)] 2 = mkF m 0 #[.val (.ref aa), .val (.ref pa)] [] := by  first | (simp [entryFrame, mkF, argsToLocals, Value.category, maxLocals]; done) | rfl
def Q_rm_sw1_0 (Z : State) (G1 : Int32) (aa : Addr) (bb : Addr) (kb : ClassId) (nn : Int32) (vs : List Value) (dd : Value) (pa : Addr) (pb : Addr) (kp : ClassId) (pc0 : Int32) (h0 : Heap) (n0 : Nat) (v : Option Value) (h : Heap) (L : List Loc) : Prop := (v = some (.int (0 : Int32))) ∧ (Fr n0 L) ∧ (h = h0)
theorem pd__Ljava_lang_String_I_Z : parseMethodDescriptor "(Ljava/lang/String;I)Z" = some ⟨[(.object "java/lang/String"), .int], (some .boolean)⟩ := by decide +kernel
set_option maxRecDepth 65536 in
set_option maxHeartbeats 40000000 in
theorem rm_sw1_0 (l : Launch) (Z : State) (a0 : Array Value) (hw : ∀ d ∈ tables_1, d.before a0 Z = true) (ws : List Jvm.Cond) (G1 : Int32) (aa : Addr) (bb : Addr) (kb : ClassId) (nn : Int32) (vs : List Value) (dd : Value) (pa : Addr) (pb : Addr) (kp : ClassId) (pc0 : Int32) (h0 : Heap) (n0 : Nat) (Z0 : n0 ≤ h0.size) (O2 : Sta Z Z.heap "java/lang/String" "COMPACT_STRINGS" "Z" (.int G1)) (P5 : ¬ G1 = 0) (f2 : Exa Z h0 aa "java/lang/String") (f3 : Fld Z h0 aa "java/lang/String" "coder" "B" (.int (0 : Int32))) (f4 : Fld Z h0 aa "java/lang/String" "value" "[B" (.ref bb)) (f5 : Arv Z h0 bb kb .byte nn vs dd) (f6 : Exa Z h0 pa "java/lang/String") (f7 : Fld Z h0 pa "java/lang/String" "coder" "B" (.int (0 : Int32))) (f8 : Fld Z h0 pa "java/lang/String" "value" "[B" (.ref pb)) (f9 : Arv Z h0 pb kp .byte (1 : Int32) [(.int pc0)] (.int (0 : Int32))) (h1 : ((nn >>> ((0 : Int32) &&& 31)) - (1 : Int32)) < (0 : Int32)) (Old0 : OldL Z n0 h0) :
    MetFree l (⟨"java/lang/String", "startsWith", "(Ljava/lang/String;)Z"⟩ : MethodName) (head1 (Jvm.Cond.code (⟨"java/lang/String", "startsWith", "(Ljava/lang/String;)Z"⟩ : MethodName) jdk_42_method_76_code 2 (some .boolean) :: ws) ({ frames := 3, cells := 0, slots := 0, locals := 46 } : Room)) (fun a U => a = #[(.ref aa), (.ref pa)] ∧ Z.Warmed39 U.vm ∧ U.heap = h0) (fun _ _ _ _ _ => True) (fun _ U o U' => ∃ v L, o = .returned v ∧ Q_rm_sw1_0 Z G1 aa bb kb nn vs dd pa pb kp pc0 h0 n0 v U'.heap L ∧ FrameEnd U o U' L ({ frames := 3, cells := 0, slots := 0, locals := 46 } : Room).cells ({ frames := 3, cells := 0, slots := 0, locals := 46 } : Room).slots) := by
  refine MetFree.of_bodySF (plainFor_of_name pn_java_lang_String) hisR ?_
  intro p e s m args below meth c s₁ Bd hml0 hP hK
  obtain ⟨rfl, hZ, hh⟩ := hP
  have hx := Bd.exec
  have hby := Bd.bytes
  have hml : c.maxLocals = 2 := hml0
  have hown : s.vm.findClass "java/lang/String" = some m.cls := findClass_of_methodNamed Bd.named
  have hnm := (name_of_methodNamed Bd.named Bd.method).1
  have X0 : Stand p l e ({ frames := 3, cells := 0, slots := 0, locals := 46 } : Room) s m #[(.ref aa), (.ref pa)] below meth c s₁ [] 0 0 := Stand.of_body Bd
  have e0 : s₁.heap = h0 := by rw [← hh, Bd.state]; rfl
  have N0 := Fr.nil n0
  have K00 : Keep h0 h0 [] := Keep.refl _ _
  have hlk0 : meth.locks = false := by first | assumption | exact BodyLoose.notSynchronized (by assumption) | exact Body.notSynchronized (by assumption)
  show Rch p e below s₁ (entryFrame m #[(.ref aa), (.ref pa)] 2) (FinP s (Q_rm_sw1_0 Z G1 aa bb kb nn vs dd pa pb kp pc0 h0 n0) 0 0)
  refine Rch.cast (ef_rm_sw1_0 m G1 aa bb kb nn vs dd pa pb kp pc0) ?_
  show Rch p e below s₁ (mkF m 0 #[.val (.ref aa), .val (.ref pa)] []) _
  refine w_aloadN (pc' := 1) X0 hx hby djdk42m76_0 rfl rfl rfl ?_
  refine w_aloadN (pc' := 2) X0 hx hby djdk42m76_1 rfl rfl rfl ?_
  refine w_iconst (pc' := 3) (v := 0) X0 hx hby djdk42m76_2 rfl rfl ?_
  obtain ⟨cq845, kq845, q845a, q845b, q845c⟩ := isOf hZ e0 f2
  obtain ⟨_, _, ⟨T845, L845, k845, n845⟩, -, X845, ⟨Lc845, hQ845, l845, y845, z845⟩, st845⟩ := X0.virtualBack hx (y := (⟨"java/lang/String", "startsWith", "(Ljava/lang/String;I)Z"⟩ : MethodName)) (z := (⟨"java/lang/String", "startsWith", "(Ljava/lang/String;I)Z"⟩ : MethodName)) hown (mvT hZ (hw _ (List.mem_of_getElem? (i := 33) rfl))) (mvT hZ (hw _ (List.mem_of_getElem? (i := 34) rfl))) (notFace_of_selects (args := #[]) (mvT hZ (hw _ (List.mem_of_getElem? (i := 36) rfl)))) (mvT hZ (hw _ (List.mem_of_getElem? (i := 36) rfl))) (mvT hZ (hw _ (List.mem_of_getElem? (i := 35) rfl))) (by decide) (backOf (W := 0) (rm_sw2_0 l Z a0 hw [] G1 aa bb kb nn vs dd pa pb kp pc0 h0 n0 Z0 (O2) (P5) f2 f3 f4 f5 f6 f7 f8 f9 (h1) Old0) hZ (hw _ (List.mem_of_getElem? (i := 37) rfl)) (hw _ (List.mem_of_getElem? (i := 4) rfl)) (by decide) (by decide)) q845a q845c (g := (mkF m 3 #[.val (.ref aa), .val (.ref pa)] [(.int (0 : Int32)), (.ref pa), (.ref aa)])) rfl (by rw [hml]; rfl) (Steps.refl _) (argsL := [(.ref pa), (.int (0 : Int32))]) (rest := []) (lenOf pd__Ljava_lang_String_I_Z rfl) rfl (by show 2 * 0 + _ ≤ _; exact Nat.le_of_eq rfl) (hb hby djdk42m76_3) (fun _ _ => ⟨rfl, e0, (by decide : 0 + 0 ≤ _), (by decide : 0 + 0 ≤ _)⟩)
  dsimp only [Pt.U, Pt.locs, Pt.cells, Pt.slots] at X845 l845 y845 z845 st845 hQ845
  subst l845 y845 z845
  obtain ⟨rfl, NQ845, K845⟩ := hQ845
  have N846 := Fr.app N0 NQ845
  refine Rch.st (fun _ k => st845.trans k) ?_
  show Rch p e below T845 (mkF m 6 #[.val (.ref aa), .val (.ref pa)] [(.int (0 : Int32))]) _
  exact Rch.retV X845 hx Bd.returns rfl (Or.inl ⟨rfl, by simp, _, rfl⟩) (hb hby djdk42m76_6) (by rw [K845]; exact ⟨rfl, N846, rfl⟩) (by decide) (by decide)

theorem ef_rm_sw2_L (m : MethodId) (G1 : Int32) (aa : Addr) (bb : Addr) (kb : ClassId) (nn : Int32) (vs : List Value) (dd : Value) (pa : Addr) (pb : Addr) (kp : ClassId) (pc0 : Int32) (c0 : Int32)  : entryFrame m #[(.ref aa), (.ref pa), (.int (0 : Int32))] 8 = mkF m 0 #[.val (.ref aa), .val (.ref pa), .val (.int (0 : Int32)), .unset, .unset, .unset, .unset, .unset] [] := by  first | (simp [entryFrame, mkF, argsToLocals, Value.category, maxLocals]; done) | rfl
def Q_rm_sw2_L (Z : State) (G1 : Int32) (aa : Addr) (bb : Addr) (kb : ClassId) (nn : Int32) (vs : List Value) (dd : Value) (pa : Addr) (pb : Addr) (kp : ClassId) (pc0 : Int32) (c0 : Int32) (h0 : Heap) (n0 : Nat) (v : Option Value) (h : Heap) (L : List Loc) : Prop := (v = some (.int (own_sw c0 pc0))) ∧ (Fr n0 L) ∧ (h = h0)
theorem pd___BI_BII_I : parseMethodDescriptor "([BI[BII)I" = some ⟨[(.array .byte), .int, (.array .byte), .int, .int], (some .int)⟩ := by decide +kernel
set_option maxRecDepth 65536 in
set_option maxHeartbeats 40000000 in
theorem rm_sw2_L (l : Launch) (Z : State) (a0 : Array Value) (hw : ∀ d ∈ tables_1, d.before a0 Z = true) (ws : List Jvm.Cond) (G1 : Int32) (aa : Addr) (bb : Addr) (kb : ClassId) (nn : Int32) (vs : List Value) (dd : Value) (pa : Addr) (pb : Addr) (kp : ClassId) (pc0 : Int32) (c0 : Int32) (h0 : Heap) (n0 : Nat) (Z0 : n0 ≤ h0.size) (O2 : Sta Z Z.heap "java/lang/String" "COMPACT_STRINGS" "Z" (.int G1)) (P5 : ¬ G1 = 0) (f2 : Exa Z h0 aa "java/lang/String") (f3 : Fld Z h0 aa "java/lang/String" "coder" "B" (.int (0 : Int32))) (f4 : Fld Z h0 aa "java/lang/String" "value" "[B" (.ref bb)) (f5 : Arv Z h0 bb kb .byte nn vs dd) (f6 : Exa Z h0 pa "java/lang/String") (f7 : Fld Z h0 pa "java/lang/String" "coder" "B" (.int (0 : Int32))) (f8 : Fld Z h0 pa "java/lang/String" "value" "[B" (.ref pb)) (f9 : Arv Z h0 pb kp .byte (1 : Int32) [(.int pc0)] (.int (0 : Int32))) (h1 : ¬ ((nn >>> ((0 : Int32) &&& 31)) - (1 : Int32)) < (0 : Int32)) (hp : pc0 = 34 ∨ pc0 = 96) (hn : (0 : Int32) < nn) (hv : vs.getD 0 dd = .int (own_by c0)) (hc0 : ¬ c0 < 0) (hc1 : ¬ (255 : Int32) < c0) (Old0 : OldL Z n0 h0) :
    MetFree l (⟨"java/lang/String", "startsWith", "(Ljava/lang/String;I)Z"⟩ : MethodName) (head1 (Jvm.Cond.code (⟨"java/lang/String", "startsWith", "(Ljava/lang/String;I)Z"⟩ : MethodName) jdk_42_method_75_code 8 (some .boolean) :: ws) ({ frames := 2, cells := 0, slots := 0, locals := 27 } : Room)) (fun a U => a = #[(.ref aa), (.ref pa), (.int (0 : Int32))] ∧ Z.Warmed39 U.vm ∧ U.heap = h0) (fun _ _ _ _ _ => True) (fun _ U o U' => ∃ v L, o = .returned v ∧ Q_rm_sw2_L Z G1 aa bb kb nn vs dd pa pb kp pc0 c0 h0 n0 v U'.heap L ∧ FrameEnd U o U' L ({ frames := 2, cells := 0, slots := 0, locals := 27 } : Room).cells ({ frames := 2, cells := 0, slots := 0, locals := 27 } : Room).slots) := by
  refine MetFree.of_bodySF (plainFor_of_name pn_java_lang_String) hisR ?_
  intro p e s m args below meth c s₁ Bd hml0 hP hK
  obtain ⟨rfl, hZ, hh⟩ := hP
  have hx := Bd.exec
  have hby := Bd.bytes
  have hml : c.maxLocals = 8 := hml0
  have hown : s.vm.findClass "java/lang/String" = some m.cls := findClass_of_methodNamed Bd.named
  have hnm := (name_of_methodNamed Bd.named Bd.method).1
  have X0 : Stand p l e ({ frames := 2, cells := 0, slots := 0, locals := 27 } : Room) s m #[(.ref aa), (.ref pa), (.int (0 : Int32))] below meth c s₁ [] 0 0 := Stand.of_body Bd
  have e0 : s₁.heap = h0 := by rw [← hh, Bd.state]; rfl
  have N0 := Fr.nil n0
  have K00 : Keep h0 h0 [] := Keep.refl _ _
  have hlk0 : meth.locks = false := by first | assumption | exact BodyLoose.notSynchronized (by assumption) | exact Body.notSynchronized (by assumption)
  show Rch p e below s₁ (entryFrame m #[(.ref aa), (.ref pa), (.int (0 : Int32))] 8) (FinP s (Q_rm_sw2_L Z G1 aa bb kb nn vs dd pa pb kp pc0 c0 h0 n0) 0 0)
  refine Rch.cast (ef_rm_sw2_L m G1 aa bb kb nn vs dd pa pb kp pc0 c0) ?_
  show Rch p e below s₁ (mkF m 0 #[.val (.ref aa), .val (.ref pa), .val (.int (0 : Int32)), .unset, .unset, .unset, .unset, .unset] []) _
  refine w_iloadN (pc' := 1) X0 hx hby djdk42m75_0 rfl rfl ?_
  refine w_ifNo (pc' := 4) X0 hx hby djdk42m75_1 (XT.i0_lt_f (by decide)) rfl ?_
  refine w_iloadN (pc' := 5) X0 hx hby djdk42m75_4 rfl rfl ?_
  refine w_aloadN (pc' := 6) X0 hx hby djdk42m75_5 rfl rfl rfl ?_
  obtain ⟨cq847, kq847, q847a, q847b, q847c⟩ := isOf hZ e0 f2
  obtain ⟨_, _, ⟨T847, L847, k847, n847⟩, -, X847, ⟨Lc847, hQ847, l847, y847, z847⟩, st847⟩ := X0.virtualBack hx (y := (⟨"java/lang/String", "length", "()I"⟩ : MethodName)) (z := (⟨"java/lang/String", "length", "()I"⟩ : MethodName)) hown (mvT hZ (hw _ (List.mem_of_getElem? (i := 38) rfl))) (mvT hZ (hw _ (List.mem_of_getElem? (i := 39) rfl))) (notFace_of_selects (args := #[]) (mvT hZ (hw _ (List.mem_of_getElem? (i := 41) rfl)))) (mvT hZ (hw _ (List.mem_of_getElem? (i := 41) rfl))) (mvT hZ (hw _ (List.mem_of_getElem? (i := 40) rfl))) (by decide) (backOf (W := 1) (rm_length l Z a0 hw [] G1 aa (0 : Int32) bb kb nn vs dd h0 n0 Z0 (O2) (P5) f3 (Or.inl rfl) f4 f5 f2 Old0) hZ (hw _ (List.mem_of_getElem? (i := 42) rfl)) (hw _ (List.mem_of_getElem? (i := 4) rfl)) (by decide) (by decide)) q847a q847c (g := (mkF m 6 #[.val (.ref aa), .val (.ref pa), .val (.int (0 : Int32)), .unset, .unset, .unset, .unset, .unset] [(.ref aa), (.int (0 : Int32))])) rfl (by rw [hml]; rfl) (Steps.refl _) (argsL := []) (rest := [(.int (0 : Int32))]) (lenOf pd___I rfl) rfl (by show 2 * 0 + _ ≤ _; exact Nat.le_of_eq rfl) (hb hby djdk42m75_6) (fun _ _ => ⟨rfl, e0, (by decide : 0 + 0 ≤ _), (by decide : 0 + 0 ≤ _)⟩)
  dsimp only [Pt.U, Pt.locs, Pt.cells, Pt.slots] at X847 l847 y847 z847 st847 hQ847
  subst l847 y847 z847
  obtain ⟨rfl, NQ847, K847⟩ := hQ847
  have N848 := Fr.app N0 NQ847
  refine Rch.st (fun _ k => st847.trans k) ?_
  show Rch p e below T847 (mkF m 9 #[.val (.ref aa), .val (.ref pa), .val (.int (0 : Int32)), .unset, .unset, .unset, .unset, .unset] [(.int (nn >>> ((0 : Int32) &&& 31))), (.int (0 : Int32))]) _
  refine w_aloadN (pc' := 10) X847 hx hby djdk42m75_9 rfl rfl rfl ?_
  obtain ⟨cq849, kq849, q849a, q849b, q849c⟩ := isOf hZ K847 f6
  obtain ⟨_, _, ⟨T849, L849, k849, n849⟩, -, X849, ⟨Lc849, hQ849, l849, y849, z849⟩, st849⟩ := X847.virtualBack hx (y := (⟨"java/lang/String", "length", "()I"⟩ : MethodName)) (z := (⟨"java/lang/String", "length", "()I"⟩ : MethodName)) hown (mvT hZ (hw _ (List.mem_of_getElem? (i := 38) rfl))) (mvT hZ (hw _ (List.mem_of_getElem? (i := 39) rfl))) (notFace_of_selects (args := #[]) (mvT hZ (hw _ (List.mem_of_getElem? (i := 41) rfl)))) (mvT hZ (hw _ (List.mem_of_getElem? (i := 41) rfl))) (mvT hZ (hw _ (List.mem_of_getElem? (i := 40) rfl))) (by decide) (backOf (W := 2) (rm_length l Z a0 hw [] G1 pa (0 : Int32) pb kp (1 : Int32) ([(.int pc0)]) (.int (0 : Int32)) h0 n0 Z0 (O2) (P5) f7 (Or.inl rfl) f8 f9 f6 Old0) hZ (hw _ (List.mem_of_getElem? (i := 42) rfl)) (hw _ (List.mem_of_getElem? (i := 4) rfl)) (by decide) (by decide)) q849a q849c (g := (mkF m 10 #[.val (.ref aa), .val (.ref pa), .val (.int (0 : Int32)), .unset, .unset, .unset, .unset, .unset] [(.ref pa), (.int (nn >>> ((0 : Int32) &&& 31))), (.int (0 : Int32))])) rfl (by rw [hml]; rfl) (Steps.refl _) (argsL := []) (rest := [(.int (nn >>> ((0 : Int32) &&& 31))), (.int (0 : Int32))]) (lenOf pd___I rfl) rfl (by show 2 * 0 + _ ≤ _; exact Nat.le_of_eq rfl) (hb hby djdk42m75_10) (fun _ _ => ⟨rfl, K847, (by decide : 0 + 0 ≤ _), (by decide : 0 + 0 ≤ _)⟩)
  dsimp only [Pt.U, Pt.locs, Pt.cells, Pt.slots] at X849 l849 y849 z849 st849 hQ849
  subst l849 y849 z849
  obtain ⟨rfl, NQ849, K849⟩ := hQ849
  have N850 := Fr.app N848 NQ849
  refine Rch.st (fun _ k => st849.trans k) ?_
  show Rch p e below T849 (mkF m 13 #[.val (.ref aa), .val (.ref pa), .val (.int (0 : Int32)), .unset, .unset, .unset, .unset, .unset] [(.int ((1 : Int32) >>> ((0 : Int32) &&& 31))), (.int (nn >>> ((0 : Int32) &&& 31))), (.int (0 : Int32))]) _
  have r851 : ((1 : Int32) >>> ((0 : Int32) &&& 31)) = (1 : Int32) := by decide
  rw [r851]
  show Rch p e below T849 (mkF m 13 #[.val (.ref aa), .val (.ref pa), .val (.int (0 : Int32)), .unset, .unset, .unset, .unset, .unset] [(.int (1 : Int32)), (.int (nn >>> ((0 : Int32) &&& 31))), (.int (0 : Int32))]) _
  refine w_isub (pc' := 14) X849 hx hby djdk42m75_13 rfl ?_
  refine w_icmpYes (pc' := 19) X849 hx hby djdk42m75_14 (XT.ii_le_t (h1)) (by decide) ?_
  refine w_aloadN (pc' := 20) X849 hx hby djdk42m75_19 rfl rfl rfl ?_
  obtain ⟨T852, X852, e852, st852⟩ := getF X849 hx hZ hown (host := "") (Or.inl (hw _ (List.mem_of_getElem? (i := 21) rfl))) Via.refl K849 f4 (g := (mkF m 20 #[.val (.ref aa), .val (.ref pa), .val (.int (0 : Int32)), .unset, .unset, .unset, .unset, .unset] [(.ref aa)])) rfl rfl (hb hby djdk42m75_20)
  refine Rch.st (fun _ k => st852 _ k) ?_
  show Rch p e below T852 (mkF m 23 #[.val (.ref aa), .val (.ref pa), .val (.int (0 : Int32)), .unset, .unset, .unset, .unset, .unset] [(.ref bb)]) _
  refine w_astoreN (pc' := 24) (l' := #[.val (.ref aa), .val (.ref pa), .val (.int (0 : Int32)), .val (.ref bb), .unset, .unset, .unset, .unset]) X852 hx hby djdk42m75_23 rfl rfl rfl ?_
  refine w_aloadN (pc' := 25) X852 hx hby djdk42m75_24 rfl rfl rfl ?_
  obtain ⟨T853, X853, e853, st853⟩ := getF X852 hx hZ hown (host := "") (Or.inl (hw _ (List.mem_of_getElem? (i := 21) rfl))) Via.refl e852 f8 (g := (mkF m 25 #[.val (.ref aa), .val (.ref pa), .val (.int (0 : Int32)), .val (.ref bb), .unset, .unset, .unset, .unset] [(.ref pa)])) rfl rfl (hb hby djdk42m75_25)
  refine Rch.st (fun _ k => st853 _ k) ?_
  show Rch p e below T853 (mkF m 28 #[.val (.ref aa), .val (.ref pa), .val (.int (0 : Int32)), .val (.ref bb), .unset, .unset, .unset, .unset] [(.ref pb)]) _
  refine w_astore (pc' := 30) (l' := #[.val (.ref aa), .val (.ref pa), .val (.int (0 : Int32)), .val (.ref bb), .val (.ref pb), .unset, .unset, .unset]) X853 hx hby djdk42m75_28 rfl rfl rfl ?_
  refine w_iconst (pc' := 31) (v := 0) X853 hx hby djdk42m75_30 rfl rfl ?_
  refine w_istore (pc' := 33) (l' := #[.val (.ref aa), .val (.ref pa), .val (.int (0 : Int32)), .val (.ref bb), .val (.ref pb), .val (.int (0 : Int32)), .unset, .unset]) X853 hx hby djdk42m75_31 rfl rfl ?_
  refine w_aload (pc' := 35) X853 hx hby djdk42m75_33 rfl rfl rfl ?_
  refine Rch.st (fun _ k => own_alen X853 hx hZ e853 f9 rfl rfl (hb hby djdk42m75_35) k) ?_
  show Rch p e below T853 (mkF m 36 #[.val (.ref aa), .val (.ref pa), .val (.int (0 : Int32)), .val (.ref bb), .val (.ref pb), .val (.int (0 : Int32)), .unset, .unset] [(.int (1 : Int32))]) _
  refine w_istore (pc' := 38) (l' := #[.val (.ref aa), .val (.ref pa), .val (.int (0 : Int32)), .val (.ref bb), .val (.ref pb), .val (.int (0 : Int32)), .val (.int (1 : Int32)), .unset]) X853 hx hby djdk42m75_36 rfl rfl ?_
  refine w_aloadN (pc' := 39) X853 hx hby djdk42m75_38 rfl rfl rfl ?_
  obtain ⟨cq854, kq854, q854a, q854b, q854c⟩ := isOf hZ e853 f2
  obtain ⟨_, _, ⟨T854, L854, k854, n854⟩, -, X854, ⟨Lc854, hQ854, l854, y854, z854⟩, st854⟩ := X853.virtualBack hx (y := (⟨"java/lang/String", "coder", "()B"⟩ : MethodName)) (z := (⟨"java/lang/String", "coder", "()B"⟩ : MethodName)) hown (mvT hZ (hw _ (List.mem_of_getElem? (i := 43) rfl))) (mvT hZ (hw _ (List.mem_of_getElem? (i := 44) rfl))) (notFace_of_selects (args := #[]) (mvT hZ (hw _ (List.mem_of_getElem? (i := 46) rfl)))) (mvT hZ (hw _ (List.mem_of_getElem? (i := 46) rfl))) (mvT hZ (hw _ (List.mem_of_getElem? (i := 45) rfl))) (by decide) (backOf (W := 0) (rm_coder l Z a0 hw [] G1 aa (0 : Int32) h0 n0 Z0 (O2) (P5) f3 (Or.inl rfl) Old0) hZ (hw _ (List.mem_of_getElem? (i := 47) rfl)) (hw _ (List.mem_of_getElem? (i := 4) rfl)) (by decide) (by decide)) q854a q854c (g := (mkF m 39 #[.val (.ref aa), .val (.ref pa), .val (.int (0 : Int32)), .val (.ref bb), .val (.ref pb), .val (.int (0 : Int32)), .val (.int (1 : Int32)), .unset] [(.ref aa)])) rfl (by rw [hml]; rfl) (Steps.refl _) (argsL := []) (rest := []) (lenOf pd___B rfl) rfl (by show 2 * 0 + _ ≤ _; exact Nat.le_of_eq rfl) (hb hby djdk42m75_39) (fun _ _ => ⟨rfl, e853, (by decide : 0 + 0 ≤ _), (by decide : 0 + 0 ≤ _)⟩)
  dsimp only [Pt.U, Pt.locs, Pt.cells, Pt.slots] at X854 l854 y854 z854 st854 hQ854
  subst l854 y854 z854
  obtain ⟨rfl, NQ854, K854⟩ := hQ854
  have N855 := Fr.app N850 NQ854
  refine Rch.st (fun _ k => st854.trans k) ?_
  show Rch p e below T854 (mkF m 42 #[.val (.ref aa), .val (.ref pa), .val (.int (0 : Int32)), .val (.ref bb), .val (.ref pb), .val (.int (0 : Int32)), .val (.int (1 : Int32)), .unset] [(.int (0 : Int32))]) _
  refine w_istore (pc' := 44) (l' := #[.val (.ref aa), .val (.ref pa), .val (.int (0 : Int32)), .val (.ref bb), .val (.ref pb), .val (.int (0 : Int32)), .val (.int (1 : Int32)), .val (.int (0 : Int32))]) X854 hx hby djdk42m75_42 rfl rfl ?_
  refine w_iload (pc' := 46) X854 hx hby djdk42m75_44 rfl rfl ?_
  refine w_aloadN (pc' := 47) X854 hx hby djdk42m75_46 rfl rfl rfl ?_
  obtain ⟨cq856, kq856, q856a, q856b, q856c⟩ := isOf hZ K854 f6
  obtain ⟨_, _, ⟨T856, L856, k856, n856⟩, -, X856, ⟨Lc856, hQ856, l856, y856, z856⟩, st856⟩ := X854.virtualBack hx (y := (⟨"java/lang/String", "coder", "()B"⟩ : MethodName)) (z := (⟨"java/lang/String", "coder", "()B"⟩ : MethodName)) hown (mvT hZ (hw _ (List.mem_of_getElem? (i := 43) rfl))) (mvT hZ (hw _ (List.mem_of_getElem? (i := 44) rfl))) (notFace_of_selects (args := #[]) (mvT hZ (hw _ (List.mem_of_getElem? (i := 46) rfl)))) (mvT hZ (hw _ (List.mem_of_getElem? (i := 46) rfl))) (mvT hZ (hw _ (List.mem_of_getElem? (i := 45) rfl))) (by decide) (backOf (W := 1) (rm_coder l Z a0 hw [] G1 pa (0 : Int32) h0 n0 Z0 (O2) (P5) f7 (Or.inl rfl) Old0) hZ (hw _ (List.mem_of_getElem? (i := 47) rfl)) (hw _ (List.mem_of_getElem? (i := 4) rfl)) (by decide) (by decide)) q856a q856c (g := (mkF m 47 #[.val (.ref aa), .val (.ref pa), .val (.int (0 : Int32)), .val (.ref bb), .val (.ref pb), .val (.int (0 : Int32)), .val (.int (1 : Int32)), .val (.int (0 : Int32))] [(.ref pa), (.int (0 : Int32))])) rfl (by rw [hml]; rfl) (Steps.refl _) (argsL := []) (rest := [(.int (0 : Int32))]) (lenOf pd___B rfl) rfl (by show 2 * 0 + _ ≤ _; exact Nat.le_of_eq rfl) (hb hby djdk42m75_47) (fun _ _ => ⟨rfl, K854, (by decide : 0 + 0 ≤ _), (by decide : 0 + 0 ≤ _)⟩)
  dsimp only [Pt.U, Pt.locs, Pt.cells, Pt.slots] at X856 l856 y856 z856 st856 hQ856
  subst l856 y856 z856
  obtain ⟨rfl, NQ856, K856⟩ := hQ856
  have N857 := Fr.app N855 NQ856
  refine Rch.st (fun _ k => st856.trans k) ?_
  show Rch p e below T856 (mkF m 50 #[.val (.ref aa), .val (.ref pa), .val (.int (0 : Int32)), .val (.ref bb), .val (.ref pb), .val (.int (0 : Int32)), .val (.int (1 : Int32)), .val (.int (0 : Int32))] [(.int (0 : Int32)), (.int (0 : Int32))]) _
  refine w_icmpNo (pc' := 53) X856 hx hby djdk42m75_50 (XT.ii_ne_f (by decide)) rfl ?_
  refine w_iload (pc' := 55) X856 hx hby djdk42m75_53 rfl rfl ?_
  refine w_iconst (pc' := 56) (v := 1) X856 hx hby djdk42m75_55 rfl rfl ?_
  refine w_icmpYes (pc' := 63) X856 hx hby djdk42m75_56 (XT.ii_ne_t (by decide)) (by decide) ?_
  refine w_aloadN (pc' := 64) X856 hx hby djdk42m75_63 rfl rfl rfl ?_
  refine w_iloadN (pc' := 65) X856 hx hby djdk42m75_64 rfl rfl ?_
  refine w_aload (pc' := 67) X856 hx hby djdk42m75_65 rfl rfl rfl ?_
  refine w_iconst (pc' := 68) (v := 0) X856 hx hby djdk42m75_67 rfl rfl ?_
  refine w_iload (pc' := 70) X856 hx hby djdk42m75_68 rfl rfl ?_
  obtain ⟨_, _, ⟨T858, L858, k858, n858⟩, -, X858, ⟨Lc858, hQ858, l858, y858, z858⟩, st858⟩ := Jvm.LawKit.callS X856 hx (y := (⟨"jdk/internal/util/ArraysSupport", "mismatch", "([BI[BII)I"⟩ : MethodName)) hown (mvT hZ (hw _ (List.mem_of_getElem? (i := 60) rfl))) (mvT hZ (hw _ (List.mem_of_getElem? (i := 61) rfl))) (mvT hZ (hw _ (List.mem_of_getElem? (i := 62) rfl))) (mvT hZ (hw _ (List.mem_of_getElem? (i := 63) rfl))) (by decide) (backOf (W := 0) (rm_mis l Z a0 hw [] bb kb nn vs dd pb kp pc0 (own_by c0) h0 n0 Z0 f5 f9 (hn) (hv)) hZ (hw _ (List.mem_of_getElem? (i := 63) rfl)) (hw _ (List.mem_of_getElem? (i := 62) rfl)) (by decide) (by decide)) (g := (mkF m 70 #[.val (.ref aa), .val (.ref pa), .val (.int (0 : Int32)), .val (.ref bb), .val (.ref pb), .val (.int (0 : Int32)), .val (.int (1 : Int32)), .val (.int (0 : Int32))] [(.int (1 : Int32)), (.int (0 : Int32)), (.ref pb), (.int (0 : Int32)), (.ref bb)])) rfl (by rw [hml]; rfl) (argsL := [(.ref bb), (.int (0 : Int32)), (.ref pb), (.int (0 : Int32)), (.int (1 : Int32))]) (rest := []) (lenOf pd___BI_BII_I rfl) rfl (by show 2 * 0 + _ ≤ _; exact Nat.le_of_eq rfl) (hb hby djdk42m75_70) (fun _ _ => ⟨rfl, K856, (by decide : 0 + 0 ≤ _), (by decide : 0 + 0 ≤ _)⟩)
  dsimp only [Pt.U, Pt.locs, Pt.cells, Pt.slots] at X858 l858 y858 z858 st858 hQ858
  subst l858 y858 z858
  obtain ⟨rfl, NQ858, K858⟩ := hQ858
  have N859 := Fr.app N857 NQ858
  refine Rch.st (fun _ k => st858 _ k) ?_
  show Rch p e below T858 (mkF m 73 #[.val (.ref aa), .val (.ref pa), .val (.int (0 : Int32)), .val (.ref bb), .val (.ref pb), .val (.int (0 : Int32)), .val (.int (1 : Int32)), .val (.int (0 : Int32))] [(.int (own_mm (own_by c0) pc0))]) _
  by_cases hc : c0 = pc0
  · skip
    have r860 : (own_mm (own_by c0) pc0) = (-1 : Int32) := by simp [own_mm, (own_b8 hc0 hc1 hp).mpr hc]
    rw [r860]
    show Rch p e below T858 (mkF m 73 #[.val (.ref aa), .val (.ref pa), .val (.int (0 : Int32)), .val (.ref bb), .val (.ref pb), .val (.int (0 : Int32)), .val (.int (1 : Int32)), .val (.int (0 : Int32))] [(.int (-1 : Int32))]) _
    refine w_ifNo (pc' := 76) X858 hx hby djdk42m75_73 (XT.i0_ge_f (by decide)) rfl ?_
    refine w_iconst (pc' := 77) (v := 1) X858 hx hby djdk42m75_76 rfl rfl ?_
    refine w_goto (pc' := 81) X858 hx hby djdk42m75_77 (by decide) ?_
    exact Rch.retV X858 hx Bd.returns rfl (Or.inl ⟨rfl, by simp, _, rfl⟩) (hb hby djdk42m75_81) (by rw [K858]; exact ⟨by simp [own_sw, hc], N859, rfl⟩) (by decide) (by decide)
  · skip
    have r861 : (own_mm (own_by c0) pc0) = (0 : Int32) := by rw [own_mm, if_neg (fun q => hc ((own_b8 hc0 hc1 hp).mp q))]
    rw [r861]
    show Rch p e below T858 (mkF m 73 #[.val (.ref aa), .val (.ref pa), .val (.int (0 : Int32)), .val (.ref bb), .val (.ref pb), .val (.int (0 : Int32)), .val (.int (1 : Int32)), .val (.int (0 : Int32))] [(.int (0 : Int32))]) _
    refine w_ifYes (pc' := 80) X858 hx hby djdk42m75_73 (XT.i0_ge_t (by decide)) (by decide) ?_
    refine w_iconst (pc' := 81) (v := 0) X858 hx hby djdk42m75_80 rfl rfl ?_
    exact Rch.retV X858 hx Bd.returns rfl (Or.inl ⟨rfl, by simp, _, rfl⟩) (hb hby djdk42m75_81) (by rw [K858]; exact ⟨by simp [own_sw, hc], N859, rfl⟩) (by decide) (by decide)

theorem ef_rm_sw1_L (m : MethodId) (G1 : Int32) (aa : Addr) (bb : Addr) (kb : ClassId) (nn : Int32) (vs : List Value) (dd : Value) (pa : Addr) (pb : Addr) (kp : ClassId) (pc0 : Int32) (c0 : Int32)  : entryFrame m #[(.ref aa), (.ref pa)] 2 = mkF m 0 #[.val (.ref aa), .val (.ref pa)] [] := by  first | (simp [entryFrame, mkF, argsToLocals, Value.category, maxLocals]; done) | rfl
def Q_rm_sw1_L (Z : State) (G1 : Int32) (aa : Addr) (bb : Addr) (kb : ClassId) (nn : Int32) (vs : List Value) (dd : Value) (pa : Addr) (pb : Addr) (kp : ClassId) (pc0 : Int32) (c0 : Int32) (h0 : Heap) (n0 : Nat) (v : Option Value) (h : Heap) (L : List Loc) : Prop := (v = some (.int (own_sw c0 pc0))) ∧ (Fr n0 L) ∧ (h = h0)
set_option maxRecDepth 65536 in
set_option maxHeartbeats 40000000 in
theorem rm_sw1_L (l : Launch) (Z : State) (a0 : Array Value) (hw : ∀ d ∈ tables_1, d.before a0 Z = true) (ws : List Jvm.Cond) (G1 : Int32) (aa : Addr) (bb : Addr) (kb : ClassId) (nn : Int32) (vs : List Value) (dd : Value) (pa : Addr) (pb : Addr) (kp : ClassId) (pc0 : Int32) (c0 : Int32) (h0 : Heap) (n0 : Nat) (Z0 : n0 ≤ h0.size) (O2 : Sta Z Z.heap "java/lang/String" "COMPACT_STRINGS" "Z" (.int G1)) (P5 : ¬ G1 = 0) (f2 : Exa Z h0 aa "java/lang/String") (f3 : Fld Z h0 aa "java/lang/String" "coder" "B" (.int (0 : Int32))) (f4 : Fld Z h0 aa "java/lang/String" "value" "[B" (.ref bb)) (f5 : Arv Z h0 bb kb .byte nn vs dd) (f6 : Exa Z h0 pa "java/lang/String") (f7 : Fld Z h0 pa "java/lang/String" "coder" "B" (.int (0 : Int32))) (f8 : Fld Z h0 pa "java/lang/String" "value" "[B" (.ref pb)) (f9 : Arv Z h0 pb kp .byte (1 : Int32) [(.int pc0)] (.int (0 : Int32))) (h1 : ¬ ((nn >>> ((0 : Int32) &&& 31)) - (1 : Int32)) < (0 : Int32)) (hp : pc0 = 34 ∨ pc0 = 96) (hn : (0 : Int32) < nn) (hv : vs.getD 0 dd = .int (own_by c0)) (hc0 : ¬ c0 < 0) (hc1 : ¬ (255 : Int32) < c0) (Old0 : OldL Z n0 h0) :
    MetFree l (⟨"java/lang/String", "startsWith", "(Ljava/lang/String;)Z"⟩ : MethodName) (head1 (Jvm.Cond.code (⟨"java/lang/String", "startsWith", "(Ljava/lang/String;)Z"⟩ : MethodName) jdk_42_method_76_code 2 (some .boolean) :: ws) ({ frames := 3, cells := 0, slots := 0, locals := 46 } : Room)) (fun a U => a = #[(.ref aa), (.ref pa)] ∧ Z.Warmed39 U.vm ∧ U.heap = h0) (fun _ _ _ _ _ => True) (fun _ U o U' => ∃ v L, o = .returned v ∧ Q_rm_sw1_L Z G1 aa bb kb nn vs dd pa pb kp pc0 c0 h0 n0 v U'.heap L ∧ FrameEnd U o U' L ({ frames := 3, cells := 0, slots := 0, locals := 46 } : Room).cells ({ frames := 3, cells := 0, slots := 0, locals := 46 } : Room).slots) := by
  refine MetFree.of_bodySF (plainFor_of_name pn_java_lang_String) hisR ?_
  intro p e s m args below meth c s₁ Bd hml0 hP hK
  obtain ⟨rfl, hZ, hh⟩ := hP
  have hx := Bd.exec
  have hby := Bd.bytes
  have hml : c.maxLocals = 2 := hml0
  have hown : s.vm.findClass "java/lang/String" = some m.cls := findClass_of_methodNamed Bd.named
  have hnm := (name_of_methodNamed Bd.named Bd.method).1
  have X0 : Stand p l e ({ frames := 3, cells := 0, slots := 0, locals := 46 } : Room) s m #[(.ref aa), (.ref pa)] below meth c s₁ [] 0 0 := Stand.of_body Bd
  have e0 : s₁.heap = h0 := by rw [← hh, Bd.state]; rfl
  have N0 := Fr.nil n0
  have K00 : Keep h0 h0 [] := Keep.refl _ _
  have hlk0 : meth.locks = false := by first | assumption | exact BodyLoose.notSynchronized (by assumption) | exact Body.notSynchronized (by assumption)
  show Rch p e below s₁ (entryFrame m #[(.ref aa), (.ref pa)] 2) (FinP s (Q_rm_sw1_L Z G1 aa bb kb nn vs dd pa pb kp pc0 c0 h0 n0) 0 0)
  refine Rch.cast (ef_rm_sw1_L m G1 aa bb kb nn vs dd pa pb kp pc0 c0) ?_
  show Rch p e below s₁ (mkF m 0 #[.val (.ref aa), .val (.ref pa)] []) _
  refine w_aloadN (pc' := 1) X0 hx hby djdk42m76_0 rfl rfl rfl ?_
  refine w_aloadN (pc' := 2) X0 hx hby djdk42m76_1 rfl rfl rfl ?_
  refine w_iconst (pc' := 3) (v := 0) X0 hx hby djdk42m76_2 rfl rfl ?_
  obtain ⟨cq862, kq862, q862a, q862b, q862c⟩ := isOf hZ e0 f2
  obtain ⟨_, _, ⟨T862, L862, k862, n862⟩, -, X862, ⟨Lc862, hQ862, l862, y862, z862⟩, st862⟩ := X0.virtualBack hx (y := (⟨"java/lang/String", "startsWith", "(Ljava/lang/String;I)Z"⟩ : MethodName)) (z := (⟨"java/lang/String", "startsWith", "(Ljava/lang/String;I)Z"⟩ : MethodName)) hown (mvT hZ (hw _ (List.mem_of_getElem? (i := 33) rfl))) (mvT hZ (hw _ (List.mem_of_getElem? (i := 34) rfl))) (notFace_of_selects (args := #[]) (mvT hZ (hw _ (List.mem_of_getElem? (i := 36) rfl)))) (mvT hZ (hw _ (List.mem_of_getElem? (i := 36) rfl))) (mvT hZ (hw _ (List.mem_of_getElem? (i := 35) rfl))) (by decide) (backOf (W := 0) (rm_sw2_L l Z a0 hw [] G1 aa bb kb nn vs dd pa pb kp pc0 c0 h0 n0 Z0 (O2) (P5) f2 f3 f4 f5 f6 f7 f8 f9 (h1) (hp) (hn) (hv) (hc0) (hc1) Old0) hZ (hw _ (List.mem_of_getElem? (i := 37) rfl)) (hw _ (List.mem_of_getElem? (i := 4) rfl)) (by decide) (by decide)) q862a q862c (g := (mkF m 3 #[.val (.ref aa), .val (.ref pa)] [(.int (0 : Int32)), (.ref pa), (.ref aa)])) rfl (by rw [hml]; rfl) (Steps.refl _) (argsL := [(.ref pa), (.int (0 : Int32))]) (rest := []) (lenOf pd__Ljava_lang_String_I_Z rfl) rfl (by show 2 * 0 + _ ≤ _; exact Nat.le_of_eq rfl) (hb hby djdk42m76_3) (fun _ _ => ⟨rfl, e0, (by decide : 0 + 0 ≤ _), (by decide : 0 + 0 ≤ _)⟩)
  dsimp only [Pt.U, Pt.locs, Pt.cells, Pt.slots] at X862 l862 y862 z862 st862 hQ862
  subst l862 y862 z862
  obtain ⟨rfl, NQ862, K862⟩ := hQ862
  have N863 := Fr.app N0 NQ862
  refine Rch.st (fun _ k => st862.trans k) ?_
  show Rch p e below T862 (mkF m 6 #[.val (.ref aa), .val (.ref pa)] [(.int (own_sw c0 pc0))]) _
  exact Rch.retV X862 hx Bd.returns (by unfold own_sw; split <;> rfl) (Or.inl ⟨rfl, by simp, _, rfl⟩) (hb hby djdk42m76_6) (by rw [K862]; exact ⟨rfl, N863, rfl⟩) (by decide) (by decide)

theorem ef_rm_sw2_U (m : MethodId) (G1 : Int32) (aa : Addr) (bb : Addr) (kb : ClassId) (nn : Int32) (vs : List Value) (dd : Value) (pa : Addr) (pb : Addr) (kp : ClassId) (pc0 : Int32) (c0 : Int32)  : entryFrame m #[(.ref aa), (.ref pa), (.int (0 : Int32))] 8 = mkF m 0 #[.val (.ref aa), .val (.ref pa), .val (.int (0 : Int32)), .unset, .unset, .unset, .unset, .unset] [] := by  first | (simp [entryFrame, mkF, argsToLocals, Value.category, maxLocals]; done) | rfl
def Q_rm_sw2_U (Z : State) (G1 : Int32) (aa : Addr) (bb : Addr) (kb : ClassId) (nn : Int32) (vs : List Value) (dd : Value) (pa : Addr) (pb : Addr) (kp : ClassId) (pc0 : Int32) (c0 : Int32) (h0 : Heap) (n0 : Nat) (v : Option Value) (h : Heap) (L : List Loc) : Prop := (v = some (.int (own_sw c0 pc0))) ∧ (Fr n0 L) ∧ (h = h0)
set_option maxRecDepth 65536 in
set_option maxHeartbeats 40000000 in
theorem rm_sw2_U (l : Launch) (Z : State) (a0 : Array Value) (hw : ∀ d ∈ tables_1, d.before a0 Z = true) (ws : List Jvm.Cond) (G1 : Int32) (aa : Addr) (bb : Addr) (kb : ClassId) (nn : Int32) (vs : List Value) (dd : Value) (pa : Addr) (pb : Addr) (kp : ClassId) (pc0 : Int32) (c0 : Int32) (h0 : Heap) (n0 : Nat) (Z0 : n0 ≤ h0.size) (O2 : Sta Z Z.heap "java/lang/String" "COMPACT_STRINGS" "Z" (.int G1)) (P5 : ¬ G1 = 0) (SA : Sta Z Z.heap "java/lang/StringUTF16" "$assertionsDisabled" "Z" (.int 1)) (SH : Sta Z Z.heap "java/lang/StringUTF16" "HI_BYTE_SHIFT" "I" (.int 0)) (SL : Sta Z Z.heap "java/lang/StringUTF16" "LO_BYTE_SHIFT" "I" (.int 8)) (f5 : Exa Z h0 aa "java/lang/String") (f6 : Fld Z h0 aa "java/lang/String" "coder" "B" (.int (1 : Int32))) (f7 : Fld Z h0 aa "java/lang/String" "value" "[B" (.ref bb)) (f8 : Arv Z h0 bb kb .byte nn vs dd) (f9 : Exa Z h0 pa "java/lang/String") (f10 : Fld Z h0 pa "java/lang/String" "coder" "B" (.int (0 : Int32))) (f11 : Fld Z h0 pa "java/lang/String" "value" "[B" (.ref pb)) (f12 : Arv Z h0 pb kp .byte (1 : Int32) [(.int pc0)] (.int (0 : Int32))) (h1 : ¬ ((nn >>> ((1 : Int32) &&& 31)) - (1 : Int32)) < (0 : Int32)) (hp : pc0 = 34 ∨ pc0 = 96) (hn : (1 : Int32) < nn) (hn0 : (0 : Int32) < nn) (hv0 : vs.getD 0 dd = .int (own_lo c0)) (hv1 : vs.getD 1 dd = .int (own_hi c0)) (hc0 : ¬ c0 < 0) (hc1 : ¬ (65535 : Int32) < c0) (Old0 : OldL Z n0 h0) :
    MetFree l (⟨"java/lang/String", "startsWith", "(Ljava/lang/String;I)Z"⟩ : MethodName) (head1 (Jvm.Cond.code (⟨"java/lang/String", "startsWith", "(Ljava/lang/String;I)Z"⟩ : MethodName) jdk_42_method_75_code 8 (some .boolean) :: ws) ({ frames := 2, cells := 0, slots := 0, locals := 27 } : Room)) (fun a U => a = #[(.ref aa), (.ref pa), (.int (0 : Int32))] ∧ Z.Warmed39 U.vm ∧ U.heap = h0) (fun _ _ _ _ _ => True) (fun _ U o U' => ∃ v L, o = .returned v ∧ Q_rm_sw2_U Z G1 aa bb kb nn vs dd pa pb kp pc0 c0 h0 n0 v U'.heap L ∧ FrameEnd U o U' L ({ frames := 2, cells := 0, slots := 0, locals := 27 } : Room).cells ({ frames := 2, cells := 0, slots := 0, locals := 27 } : Room).slots) := by
  refine MetFree.of_bodySF (plainFor_of_name pn_java_lang_String) hisR ?_
  intro p e s m args below meth c s₁ Bd hml0 hP hK
  obtain ⟨rfl, hZ, hh⟩ := hP
  have hx := Bd.exec
  have hby := Bd.bytes
  have hml : c.maxLocals = 8 := hml0
  have hown : s.vm.findClass "java/lang/String" = some m.cls := findClass_of_methodNamed Bd.named
  have hnm := (name_of_methodNamed Bd.named Bd.method).1
  have X0 : Stand p l e ({ frames := 2, cells := 0, slots := 0, locals := 27 } : Room) s m #[(.ref aa), (.ref pa), (.int (0 : Int32))] below meth c s₁ [] 0 0 := Stand.of_body Bd
  have e0 : s₁.heap = h0 := by rw [← hh, Bd.state]; rfl
  have N0 := Fr.nil n0
  have K00 : Keep h0 h0 [] := Keep.refl _ _
  have hlk0 : meth.locks = false := by first | assumption | exact BodyLoose.notSynchronized (by assumption) | exact Body.notSynchronized (by assumption)
  show Rch p e below s₁ (entryFrame m #[(.ref aa), (.ref pa), (.int (0 : Int32))] 8) (FinP s (Q_rm_sw2_U Z G1 aa bb kb nn vs dd pa pb kp pc0 c0 h0 n0) 0 0)
  refine Rch.cast (ef_rm_sw2_U m G1 aa bb kb nn vs dd pa pb kp pc0 c0) ?_
  show Rch p e below s₁ (mkF m 0 #[.val (.ref aa), .val (.ref pa), .val (.int (0 : Int32)), .unset, .unset, .unset, .unset, .unset] []) _
  refine w_iloadN (pc' := 1) X0 hx hby djdk42m75_0 rfl rfl ?_
  refine w_ifNo (pc' := 4) X0 hx hby djdk42m75_1 (XT.i0_lt_f (by decide)) rfl ?_
  refine w_iloadN (pc' := 5) X0 hx hby djdk42m75_4 rfl rfl ?_
  refine w_aloadN (pc' := 6) X0 hx hby djdk42m75_5 rfl rfl rfl ?_
  obtain ⟨cq864, kq864, q864a, q864b, q864c⟩ := isOf hZ e0 f5
  obtain ⟨_, _, ⟨T864, L864, k864, n864⟩, -, X864, ⟨Lc864, hQ864, l864, y864, z864⟩, st864⟩ := X0.virtualBack hx (y := (⟨"java/lang/String", "length", "()I"⟩ : MethodName)) (z := (⟨"java/lang/String", "length", "()I"⟩ : MethodName)) hown (mvT hZ (hw _ (List.mem_of_getElem? (i := 38) rfl))) (mvT hZ (hw _ (List.mem_of_getElem? (i := 39) rfl))) (notFace_of_selects (args := #[]) (mvT hZ (hw _ (List.mem_of_getElem? (i := 41) rfl)))) (mvT hZ (hw _ (List.mem_of_getElem? (i := 41) rfl))) (mvT hZ (hw _ (List.mem_of_getElem? (i := 40) rfl))) (by decide) (backOf (W := 1) (rm_length l Z a0 hw [] G1 aa (1 : Int32) bb kb nn vs dd h0 n0 Z0 (O2) (P5) f6 (Or.inr rfl) f7 f8 f5 Old0) hZ (hw _ (List.mem_of_getElem? (i := 42) rfl)) (hw _ (List.mem_of_getElem? (i := 4) rfl)) (by decide) (by decide)) q864a q864c (g := (mkF m 6 #[.val (.ref aa), .val (.ref pa), .val (.int (0 : Int32)), .unset, .unset, .unset, .unset, .unset] [(.ref aa), (.int (0 : Int32))])) rfl (by rw [hml]; rfl) (Steps.refl _) (argsL := []) (rest := [(.int (0 : Int32))]) (lenOf pd___I rfl) rfl (by show 2 * 0 + _ ≤ _; exact Nat.le_of_eq rfl) (hb hby djdk42m75_6) (fun _ _ => ⟨rfl, e0, (by decide : 0 + 0 ≤ _), (by decide : 0 + 0 ≤ _)⟩)
  dsimp only [Pt.U, Pt.locs, Pt.cells, Pt.slots] at X864 l864 y864 z864 st864 hQ864
  subst l864 y864 z864
  obtain ⟨rfl, NQ864, K864⟩ := hQ864
  have N865 := Fr.app N0 NQ864
  refine Rch.st (fun _ k => st864.trans k) ?_
  show Rch p e below T864 (mkF m 9 #[.val (.ref aa), .val (.ref pa), .val (.int (0 : Int32)), .unset, .unset, .unset, .unset, .unset] [(.int (nn >>> ((1 : Int32) &&& 31))), (.int (0 : Int32))]) _
  refine w_aloadN (pc' := 10) X864 hx hby djdk42m75_9 rfl rfl rfl ?_
  obtain ⟨cq866, kq866, q866a, q866b, q866c⟩ := isOf hZ K864 f9
  obtain ⟨_, _, ⟨T866, L866, k866, n866⟩, -, X866, ⟨Lc866, hQ866, l866, y866, z866⟩, st866⟩ := X864.virtualBack hx (y := (⟨"java/lang/String", "length", "()I"⟩ : MethodName)) (z := (⟨"java/lang/String", "length", "()I"⟩ : MethodName)) hown (mvT hZ (hw _ (List.mem_of_getElem? (i := 38) rfl))) (mvT hZ (hw _ (List.mem_of_getElem? (i := 39) rfl))) (notFace_of_selects (args := #[]) (mvT hZ (hw _ (List.mem_of_getElem? (i := 41) rfl)))) (mvT hZ (hw _ (List.mem_of_getElem? (i := 41) rfl))) (mvT hZ (hw _ (List.mem_of_getElem? (i := 40) rfl))) (by decide) (backOf (W := 2) (rm_length l Z a0 hw [] G1 pa (0 : Int32) pb kp (1 : Int32) ([(.int pc0)]) (.int (0 : Int32)) h0 n0 Z0 (O2) (P5) f10 (Or.inl rfl) f11 f12 f9 Old0) hZ (hw _ (List.mem_of_getElem? (i := 42) rfl)) (hw _ (List.mem_of_getElem? (i := 4) rfl)) (by decide) (by decide)) q866a q866c (g := (mkF m 10 #[.val (.ref aa), .val (.ref pa), .val (.int (0 : Int32)), .unset, .unset, .unset, .unset, .unset] [(.ref pa), (.int (nn >>> ((1 : Int32) &&& 31))), (.int (0 : Int32))])) rfl (by rw [hml]; rfl) (Steps.refl _) (argsL := []) (rest := [(.int (nn >>> ((1 : Int32) &&& 31))), (.int (0 : Int32))]) (lenOf pd___I rfl) rfl (by show 2 * 0 + _ ≤ _; exact Nat.le_of_eq rfl) (hb hby djdk42m75_10) (fun _ _ => ⟨rfl, K864, (by decide : 0 + 0 ≤ _), (by decide : 0 + 0 ≤ _)⟩)
  dsimp only [Pt.U, Pt.locs, Pt.cells, Pt.slots] at X866 l866 y866 z866 st866 hQ866
  subst l866 y866 z866
  obtain ⟨rfl, NQ866, K866⟩ := hQ866
  have N867 := Fr.app N865 NQ866
  refine Rch.st (fun _ k => st866.trans k) ?_
  show Rch p e below T866 (mkF m 13 #[.val (.ref aa), .val (.ref pa), .val (.int (0 : Int32)), .unset, .unset, .unset, .unset, .unset] [(.int ((1 : Int32) >>> ((0 : Int32) &&& 31))), (.int (nn >>> ((1 : Int32) &&& 31))), (.int (0 : Int32))]) _
  have r868 : ((1 : Int32) >>> ((0 : Int32) &&& 31)) = (1 : Int32) := by decide
  rw [r868]
  show Rch p e below T866 (mkF m 13 #[.val (.ref aa), .val (.ref pa), .val (.int (0 : Int32)), .unset, .unset, .unset, .unset, .unset] [(.int (1 : Int32)), (.int (nn >>> ((1 : Int32) &&& 31))), (.int (0 : Int32))]) _
  refine w_isub (pc' := 14) X866 hx hby djdk42m75_13 rfl ?_
  refine w_icmpYes (pc' := 19) X866 hx hby djdk42m75_14 (XT.ii_le_t (h1)) (by decide) ?_
  refine w_aloadN (pc' := 20) X866 hx hby djdk42m75_19 rfl rfl rfl ?_
  obtain ⟨T869, X869, e869, st869⟩ := getF X866 hx hZ hown (host := "") (Or.inl (hw _ (List.mem_of_getElem? (i := 21) rfl))) Via.refl K866 f7 (g := (mkF m 20 #[.val (.ref aa), .val (.ref pa), .val (.int (0 : Int32)), .unset, .unset, .unset, .unset, .unset] [(.ref aa)])) rfl rfl (hb hby djdk42m75_20)
  refine Rch.st (fun _ k => st869 _ k) ?_
  show Rch p e below T869 (mkF m 23 #[.val (.ref aa), .val (.ref pa), .val (.int (0 : Int32)), .unset, .unset, .unset, .unset, .unset] [(.ref bb)]) _
  refine w_astoreN (pc' := 24) (l' := #[.val (.ref aa), .val (.ref pa), .val (.int (0 : Int32)), .val (.ref bb), .unset, .unset, .unset, .unset]) X869 hx hby djdk42m75_23 rfl rfl rfl ?_
  refine w_aloadN (pc' := 25) X869 hx hby djdk42m75_24 rfl rfl rfl ?_
  obtain ⟨T870, X870, e870, st870⟩ := getF X869 hx hZ hown (host := "") (Or.inl (hw _ (List.mem_of_getElem? (i := 21) rfl))) Via.refl e869 f11 (g := (mkF m 25 #[.val (.ref aa), .val (.ref pa), .val (.int (0 : Int32)), .val (.ref bb), .unset, .unset, .unset, .unset] [(.ref pa)])) rfl rfl (hb hby djdk42m75_25)
  refine Rch.st (fun _ k => st870 _ k) ?_
  show Rch p e below T870 (mkF m 28 #[.val (.ref aa), .val (.ref pa), .val (.int (0 : Int32)), .val (.ref bb), .unset, .unset, .unset, .unset] [(.ref pb)]) _
  refine w_astore (pc' := 30) (l' := #[.val (.ref aa), .val (.ref pa), .val (.int (0 : Int32)), .val (.ref bb), .val (.ref pb), .unset, .unset, .unset]) X870 hx hby djdk42m75_28 rfl rfl rfl ?_
  refine w_iconst (pc' := 31) (v := 0) X870 hx hby djdk42m75_30 rfl rfl ?_
  refine w_istore (pc' := 33) (l' := #[.val (.ref aa), .val (.ref pa), .val (.int (0 : Int32)), .val (.ref bb), .val (.ref pb), .val (.int (0 : Int32)), .unset, .unset]) X870 hx hby djdk42m75_31 rfl rfl ?_
  refine w_aload (pc' := 35) X870 hx hby djdk42m75_33 rfl rfl rfl ?_
  refine Rch.st (fun _ k => own_alen X870 hx hZ e870 f12 rfl rfl (hb hby djdk42m75_35) k) ?_
  show Rch p e below T870 (mkF m 36 #[.val (.ref aa), .val (.ref pa), .val (.int (0 : Int32)), .val (.ref bb), .val (.ref pb), .val (.int (0 : Int32)), .unset, .unset] [(.int (1 : Int32))]) _
  refine w_istore (pc' := 38) (l' := #[.val (.ref aa), .val (.ref pa), .val (.int (0 : Int32)), .val (.ref bb), .val (.ref pb), .val (.int (0 : Int32)), .val (.int (1 : Int32)), .unset]) X870 hx hby djdk42m75_36 rfl rfl ?_
  refine w_aloadN (pc' := 39) X870 hx hby djdk42m75_38 rfl rfl rfl ?_
  obtain ⟨cq871, kq871, q871a, q871b, q871c⟩ := isOf hZ e870 f5
  obtain ⟨_, _, ⟨T871, L871, k871, n871⟩, -, X871, ⟨Lc871, hQ871, l871, y871, z871⟩, st871⟩ := X870.virtualBack hx (y := (⟨"java/lang/String", "coder", "()B"⟩ : MethodName)) (z := (⟨"java/lang/String", "coder", "()B"⟩ : MethodName)) hown (mvT hZ (hw _ (List.mem_of_getElem? (i := 43) rfl))) (mvT hZ (hw _ (List.mem_of_getElem? (i := 44) rfl))) (notFace_of_selects (args := #[]) (mvT hZ (hw _ (List.mem_of_getElem? (i := 46) rfl)))) (mvT hZ (hw _ (List.mem_of_getElem? (i := 46) rfl))) (mvT hZ (hw _ (List.mem_of_getElem? (i := 45) rfl))) (by decide) (backOf (W := 0) (rm_coder l Z a0 hw [] G1 aa (1 : Int32) h0 n0 Z0 (O2) (P5) f6 (Or.inr rfl) Old0) hZ (hw _ (List.mem_of_getElem? (i := 47) rfl)) (hw _ (List.mem_of_getElem? (i := 4) rfl)) (by decide) (by decide)) q871a q871c (g := (mkF m 39 #[.val (.ref aa), .val (.ref pa), .val (.int (0 : Int32)), .val (.ref bb), .val (.ref pb), .val (.int (0 : Int32)), .val (.int (1 : Int32)), .unset] [(.ref aa)])) rfl (by rw [hml]; rfl) (Steps.refl _) (argsL := []) (rest := []) (lenOf pd___B rfl) rfl (by show 2 * 0 + _ ≤ _; exact Nat.le_of_eq rfl) (hb hby djdk42m75_39) (fun _ _ => ⟨rfl, e870, (by decide : 0 + 0 ≤ _), (by decide : 0 + 0 ≤ _)⟩)
  dsimp only [Pt.U, Pt.locs, Pt.cells, Pt.slots] at X871 l871 y871 z871 st871 hQ871
  subst l871 y871 z871
  obtain ⟨rfl, NQ871, K871⟩ := hQ871
  have N872 := Fr.app N867 NQ871
  refine Rch.st (fun _ k => st871.trans k) ?_
  show Rch p e below T871 (mkF m 42 #[.val (.ref aa), .val (.ref pa), .val (.int (0 : Int32)), .val (.ref bb), .val (.ref pb), .val (.int (0 : Int32)), .val (.int (1 : Int32)), .unset] [(.int (1 : Int32))]) _
  refine w_istore (pc' := 44) (l' := #[.val (.ref aa), .val (.ref pa), .val (.int (0 : Int32)), .val (.ref bb), .val (.ref pb), .val (.int (0 : Int32)), .val (.int (1 : Int32)), .val (.int (1 : Int32))]) X871 hx hby djdk42m75_42 rfl rfl ?_
  refine w_iload (pc' := 46) X871 hx hby djdk42m75_44 rfl rfl ?_
  refine w_aloadN (pc' := 47) X871 hx hby djdk42m75_46 rfl rfl rfl ?_
  obtain ⟨cq873, kq873, q873a, q873b, q873c⟩ := isOf hZ K871 f9
  obtain ⟨_, _, ⟨T873, L873, k873, n873⟩, -, X873, ⟨Lc873, hQ873, l873, y873, z873⟩, st873⟩ := X871.virtualBack hx (y := (⟨"java/lang/String", "coder", "()B"⟩ : MethodName)) (z := (⟨"java/lang/String", "coder", "()B"⟩ : MethodName)) hown (mvT hZ (hw _ (List.mem_of_getElem? (i := 43) rfl))) (mvT hZ (hw _ (List.mem_of_getElem? (i := 44) rfl))) (notFace_of_selects (args := #[]) (mvT hZ (hw _ (List.mem_of_getElem? (i := 46) rfl)))) (mvT hZ (hw _ (List.mem_of_getElem? (i := 46) rfl))) (mvT hZ (hw _ (List.mem_of_getElem? (i := 45) rfl))) (by decide) (backOf (W := 1) (rm_coder l Z a0 hw [] G1 pa (0 : Int32) h0 n0 Z0 (O2) (P5) f10 (Or.inl rfl) Old0) hZ (hw _ (List.mem_of_getElem? (i := 47) rfl)) (hw _ (List.mem_of_getElem? (i := 4) rfl)) (by decide) (by decide)) q873a q873c (g := (mkF m 47 #[.val (.ref aa), .val (.ref pa), .val (.int (0 : Int32)), .val (.ref bb), .val (.ref pb), .val (.int (0 : Int32)), .val (.int (1 : Int32)), .val (.int (1 : Int32))] [(.ref pa), (.int (1 : Int32))])) rfl (by rw [hml]; rfl) (Steps.refl _) (argsL := []) (rest := [(.int (1 : Int32))]) (lenOf pd___B rfl) rfl (by show 2 * 0 + _ ≤ _; exact Nat.le_of_eq rfl) (hb hby djdk42m75_47) (fun _ _ => ⟨rfl, K871, (by decide : 0 + 0 ≤ _), (by decide : 0 + 0 ≤ _)⟩)
  dsimp only [Pt.U, Pt.locs, Pt.cells, Pt.slots] at X873 l873 y873 z873 st873 hQ873
  subst l873 y873 z873
  obtain ⟨rfl, NQ873, K873⟩ := hQ873
  have N874 := Fr.app N872 NQ873
  refine Rch.st (fun _ k => st873.trans k) ?_
  show Rch p e below T873 (mkF m 50 #[.val (.ref aa), .val (.ref pa), .val (.int (0 : Int32)), .val (.ref bb), .val (.ref pb), .val (.int (0 : Int32)), .val (.int (1 : Int32)), .val (.int (1 : Int32))] [(.int (0 : Int32)), (.int (1 : Int32))]) _
  refine w_icmpYes (pc' := 82) X873 hx hby djdk42m75_50 (XT.ii_ne_t (by decide)) (by decide) ?_
  refine w_iload (pc' := 84) X873 hx hby djdk42m75_82 rfl rfl ?_
  refine w_ifYes (pc' := 89) X873 hx hby djdk42m75_84 (XT.i0_ne_t (by decide)) (by decide) ?_
  refine w_iload (pc' := 91) X873 hx hby djdk42m75_89 rfl rfl ?_
  refine w_iload (pc' := 93) X873 hx hby djdk42m75_91 rfl rfl ?_
  refine w_icmpNo (pc' := 96) X873 hx hby djdk42m75_93 (XT.ii_ge_f (by decide)) rfl ?_
  refine w_aloadN (pc' := 97) X873 hx hby djdk42m75_96 rfl rfl rfl ?_
  refine w_iloadN (pc' := 98) X873 hx hby djdk42m75_97 rfl rfl ?_
  refine w_iinc (pc' := 101) (w := (1 : Int32)) (l' := #[.val (.ref aa), .val (.ref pa), .val (.int (1 : Int32)), .val (.ref bb), .val (.ref pb), .val (.int (0 : Int32)), .val (.int (1 : Int32)), .val (.int (1 : Int32))]) X873 hx hby djdk42m75_98 rfl (by decide) rfl rfl ?_
  obtain ⟨_, _, ⟨T875, L875, k875, n875⟩, -, X875, ⟨Lc875, hQ875, l875, y875, z875⟩, st875⟩ := Jvm.LawKit.callS X873 hx (y := (⟨"java/lang/StringUTF16", "getChar", "([BI)C"⟩ : MethodName)) hown (mvT hZ (hw _ (List.mem_of_getElem? (i := 83) rfl))) (mvT hZ (hw _ (List.mem_of_getElem? (i := 81) rfl))) (mvT hZ (hw _ (List.mem_of_getElem? (i := 52) rfl))) (mvT hZ (hw _ (List.mem_of_getElem? (i := 82) rfl))) (by decide) (backOf (W := 0) (rm_get_0 l Z a0 hw [] bb kb nn vs dd (own_lo c0) (own_hi c0) h0 n0 Z0 (SA) (SH) (SL) f8 (hn) (hn0) (hv0) (hv1) Old0) hZ (hw _ (List.mem_of_getElem? (i := 82) rfl)) (hw _ (List.mem_of_getElem? (i := 52) rfl)) (by decide) (by decide)) (g := (mkF m 101 #[.val (.ref aa), .val (.ref pa), .val (.int (1 : Int32)), .val (.ref bb), .val (.ref pb), .val (.int (0 : Int32)), .val (.int (1 : Int32)), .val (.int (1 : Int32))] [(.int (0 : Int32)), (.ref bb)])) rfl (by rw [hml]; rfl) (argsL := [(.ref bb), (.int (0 : Int32))]) (rest := []) (lenOf pd___BI_C rfl) rfl (by show 2 * 0 + _ ≤ _; exact Nat.le_of_eq rfl) (hb hby djdk42m75_101) (fun _ _ => ⟨rfl, K873, (by decide : 0 + 0 ≤ _), (by decide : 0 + 0 ≤ _)⟩)
  dsimp only [Pt.U, Pt.locs, Pt.cells, Pt.slots] at X875 l875 y875 z875 st875 hQ875
  subst l875 y875 z875
  obtain ⟨rfl, NQ875, K875⟩ := hQ875
  have N876 := Fr.app N874 NQ875
  refine Rch.st (fun _ k => st875 _ k) ?_
  show Rch p e below T875 (mkF m 104 #[.val (.ref aa), .val (.ref pa), .val (.int (1 : Int32)), .val (.ref bb), .val (.ref pb), .val (.int (0 : Int32)), .val (.int (1 : Int32)), .val (.int (1 : Int32))] [(.int (own_gc (own_lo c0) (own_hi c0)))]) _
  have r877 : (own_gc (own_lo c0) (own_hi c0)) = c0 := own_getput hc0 hc1
  rw [r877]
  show Rch p e below T875 (mkF m 104 #[.val (.ref aa), .val (.ref pa), .val (.int (1 : Int32)), .val (.ref bb), .val (.ref pb), .val (.int (0 : Int32)), .val (.int (1 : Int32)), .val (.int (1 : Int32))] [(.int c0)]) _
  refine w_aload (pc' := 106) X875 hx hby djdk42m75_104 rfl rfl rfl ?_
  refine w_iload (pc' := 108) X875 hx hby djdk42m75_106 rfl rfl ?_
  refine w_iinc (pc' := 111) (w := (1 : Int32)) (l' := #[.val (.ref aa), .val (.ref pa), .val (.int (1 : Int32)), .val (.ref bb), .val (.ref pb), .val (.int (1 : Int32)), .val (.int (1 : Int32)), .val (.int (1 : Int32))]) X875 hx hby djdk42m75_108 rfl (by decide) rfl rfl ?_
  refine Rch.st (fun _ k => own_ldB X875 hx hZ K875 f12 (j := (0 : Int32)) ⟨by decide, by decide⟩ (by rfl) rfl rfl (hb hby djdk42m75_111) k) ?_
  show Rch p e below T875 (mkF m 112 #[.val (.ref aa), .val (.ref pa), .val (.int (1 : Int32)), .val (.ref bb), .val (.ref pb), .val (.int (1 : Int32)), .val (.int (1 : Int32)), .val (.int (1 : Int32))] [(.int pc0), (.int c0)]) _
  refine w_sipush (pc' := 115) (v := 255) X875 hx hby djdk42m75_112 rfl rfl ?_
  refine w_iand (pc' := 116) X875 hx hby djdk42m75_115 rfl ?_
  have r878 : (pc0 &&& (255 : Int32)) = pc0 := by rcases hp with rfl | rfl <;> decide
  rw [r878]
  show Rch p e below T875 (mkF m 116 #[.val (.ref aa), .val (.ref pa), .val (.int (1 : Int32)), .val (.ref bb), .val (.ref pb), .val (.int (1 : Int32)), .val (.int (1 : Int32)), .val (.int (1 : Int32))] [(.int pc0), (.int c0)]) _
  by_cases c879 : c0 = pc0
  · skip
    refine w_icmpYes (pc' := 89) X875 hx hby djdk42m75_116 (XT.ii_eq_t (c879)) (by decide) ?_
    refine w_iload (pc' := 91) X875 hx hby djdk42m75_89 rfl rfl ?_
    refine w_iload (pc' := 93) X875 hx hby djdk42m75_91 rfl rfl ?_
    refine w_icmpYes (pc' := 121) X875 hx hby djdk42m75_93 (XT.ii_ge_t (by decide)) (by decide) ?_
    refine w_iconst (pc' := 122) (v := 1) X875 hx hby djdk42m75_121 rfl rfl ?_
    exact Rch.retV X875 hx Bd.returns rfl (Or.inl ⟨rfl, by simp, _, rfl⟩) (hb hby djdk42m75_122) (by rw [K875]; exact ⟨by simp [own_sw, c879], N876, rfl⟩) (by decide) (by decide)
  · skip
    refine w_icmpNo (pc' := 119) X875 hx hby djdk42m75_116 (XT.ii_eq_f (c879)) rfl ?_
    refine w_iconst (pc' := 120) (v := 0) X875 hx hby djdk42m75_119 rfl rfl ?_
    exact Rch.retV X875 hx Bd.returns rfl (Or.inl ⟨rfl, by simp, _, rfl⟩) (hb hby djdk42m75_120) (by rw [K875]; exact ⟨by simp [own_sw, c879], N876, rfl⟩) (by decide) (by decide)

theorem ef_rm_sw1_U (m : MethodId) (G1 : Int32) (aa : Addr) (bb : Addr) (kb : ClassId) (nn : Int32) (vs : List Value) (dd : Value) (pa : Addr) (pb : Addr) (kp : ClassId) (pc0 : Int32) (c0 : Int32)  : entryFrame m #[(.ref aa), (.ref pa)] 2 = mkF m 0 #[.val (.ref aa), .val (.ref pa)] [] := by  first | (simp [entryFrame, mkF, argsToLocals, Value.category, maxLocals]; done) | rfl
def Q_rm_sw1_U (Z : State) (G1 : Int32) (aa : Addr) (bb : Addr) (kb : ClassId) (nn : Int32) (vs : List Value) (dd : Value) (pa : Addr) (pb : Addr) (kp : ClassId) (pc0 : Int32) (c0 : Int32) (h0 : Heap) (n0 : Nat) (v : Option Value) (h : Heap) (L : List Loc) : Prop := (v = some (.int (own_sw c0 pc0))) ∧ (Fr n0 L) ∧ (h = h0)
set_option maxRecDepth 65536 in
set_option maxHeartbeats 40000000 in
theorem rm_sw1_U (l : Launch) (Z : State) (a0 : Array Value) (hw : ∀ d ∈ tables_1, d.before a0 Z = true) (ws : List Jvm.Cond) (G1 : Int32) (aa : Addr) (bb : Addr) (kb : ClassId) (nn : Int32) (vs : List Value) (dd : Value) (pa : Addr) (pb : Addr) (kp : ClassId) (pc0 : Int32) (c0 : Int32) (h0 : Heap) (n0 : Nat) (Z0 : n0 ≤ h0.size) (O2 : Sta Z Z.heap "java/lang/String" "COMPACT_STRINGS" "Z" (.int G1)) (P5 : ¬ G1 = 0) (SA : Sta Z Z.heap "java/lang/StringUTF16" "$assertionsDisabled" "Z" (.int 1)) (SH : Sta Z Z.heap "java/lang/StringUTF16" "HI_BYTE_SHIFT" "I" (.int 0)) (SL : Sta Z Z.heap "java/lang/StringUTF16" "LO_BYTE_SHIFT" "I" (.int 8)) (f5 : Exa Z h0 aa "java/lang/String") (f6 : Fld Z h0 aa "java/lang/String" "coder" "B" (.int (1 : Int32))) (f7 : Fld Z h0 aa "java/lang/String" "value" "[B" (.ref bb)) (f8 : Arv Z h0 bb kb .byte nn vs dd) (f9 : Exa Z h0 pa "java/lang/String") (f10 : Fld Z h0 pa "java/lang/String" "coder" "B" (.int (0 : Int32))) (f11 : Fld Z h0 pa "java/lang/String" "value" "[B" (.ref pb)) (f12 : Arv Z h0 pb kp .byte (1 : Int32) [(.int pc0)] (.int (0 : Int32))) (h1 : ¬ ((nn >>> ((1 : Int32) &&& 31)) - (1 : Int32)) < (0 : Int32)) (hp : pc0 = 34 ∨ pc0 = 96) (hn : (1 : Int32) < nn) (hn0 : (0 : Int32) < nn) (hv0 : vs.getD 0 dd = .int (own_lo c0)) (hv1 : vs.getD 1 dd = .int (own_hi c0)) (hc0 : ¬ c0 < 0) (hc1 : ¬ (65535 : Int32) < c0) (Old0 : OldL Z n0 h0) :
    MetFree l (⟨"java/lang/String", "startsWith", "(Ljava/lang/String;)Z"⟩ : MethodName) (head1 (Jvm.Cond.code (⟨"java/lang/String", "startsWith", "(Ljava/lang/String;)Z"⟩ : MethodName) jdk_42_method_76_code 2 (some .boolean) :: ws) ({ frames := 3, cells := 0, slots := 0, locals := 46 } : Room)) (fun a U => a = #[(.ref aa), (.ref pa)] ∧ Z.Warmed39 U.vm ∧ U.heap = h0) (fun _ _ _ _ _ => True) (fun _ U o U' => ∃ v L, o = .returned v ∧ Q_rm_sw1_U Z G1 aa bb kb nn vs dd pa pb kp pc0 c0 h0 n0 v U'.heap L ∧ FrameEnd U o U' L ({ frames := 3, cells := 0, slots := 0, locals := 46 } : Room).cells ({ frames := 3, cells := 0, slots := 0, locals := 46 } : Room).slots) := by
  refine MetFree.of_bodySF (plainFor_of_name pn_java_lang_String) hisR ?_
  intro p e s m args below meth c s₁ Bd hml0 hP hK
  obtain ⟨rfl, hZ, hh⟩ := hP
  have hx := Bd.exec
  have hby := Bd.bytes
  have hml : c.maxLocals = 2 := hml0
  have hown : s.vm.findClass "java/lang/String" = some m.cls := findClass_of_methodNamed Bd.named
  have hnm := (name_of_methodNamed Bd.named Bd.method).1
  have X0 : Stand p l e ({ frames := 3, cells := 0, slots := 0, locals := 46 } : Room) s m #[(.ref aa), (.ref pa)] below meth c s₁ [] 0 0 := Stand.of_body Bd
  have e0 : s₁.heap = h0 := by rw [← hh, Bd.state]; rfl
  have N0 := Fr.nil n0
  have K00 : Keep h0 h0 [] := Keep.refl _ _
  have hlk0 : meth.locks = false := by first | assumption | exact BodyLoose.notSynchronized (by assumption) | exact Body.notSynchronized (by assumption)
  show Rch p e below s₁ (entryFrame m #[(.ref aa), (.ref pa)] 2) (FinP s (Q_rm_sw1_U Z G1 aa bb kb nn vs dd pa pb kp pc0 c0 h0 n0) 0 0)
  refine Rch.cast (ef_rm_sw1_U m G1 aa bb kb nn vs dd pa pb kp pc0 c0) ?_
  show Rch p e below s₁ (mkF m 0 #[.val (.ref aa), .val (.ref pa)] []) _
  refine w_aloadN (pc' := 1) X0 hx hby djdk42m76_0 rfl rfl rfl ?_
  refine w_aloadN (pc' := 2) X0 hx hby djdk42m76_1 rfl rfl rfl ?_
  refine w_iconst (pc' := 3) (v := 0) X0 hx hby djdk42m76_2 rfl rfl ?_
  obtain ⟨cq880, kq880, q880a, q880b, q880c⟩ := isOf hZ e0 f5
  obtain ⟨_, _, ⟨T880, L880, k880, n880⟩, -, X880, ⟨Lc880, hQ880, l880, y880, z880⟩, st880⟩ := X0.virtualBack hx (y := (⟨"java/lang/String", "startsWith", "(Ljava/lang/String;I)Z"⟩ : MethodName)) (z := (⟨"java/lang/String", "startsWith", "(Ljava/lang/String;I)Z"⟩ : MethodName)) hown (mvT hZ (hw _ (List.mem_of_getElem? (i := 33) rfl))) (mvT hZ (hw _ (List.mem_of_getElem? (i := 34) rfl))) (notFace_of_selects (args := #[]) (mvT hZ (hw _ (List.mem_of_getElem? (i := 36) rfl)))) (mvT hZ (hw _ (List.mem_of_getElem? (i := 36) rfl))) (mvT hZ (hw _ (List.mem_of_getElem? (i := 35) rfl))) (by decide) (backOf (W := 0) (rm_sw2_U l Z a0 hw [] G1 aa bb kb nn vs dd pa pb kp pc0 c0 h0 n0 Z0 (O2) (P5) (SA) (SH) (SL) f5 f6 f7 f8 f9 f10 f11 f12 (h1) (hp) (hn) (hn0) (hv0) (hv1) (hc0) (hc1) Old0) hZ (hw _ (List.mem_of_getElem? (i := 37) rfl)) (hw _ (List.mem_of_getElem? (i := 4) rfl)) (by decide) (by decide)) q880a q880c (g := (mkF m 3 #[.val (.ref aa), .val (.ref pa)] [(.int (0 : Int32)), (.ref pa), (.ref aa)])) rfl (by rw [hml]; rfl) (Steps.refl _) (argsL := [(.ref pa), (.int (0 : Int32))]) (rest := []) (lenOf pd__Ljava_lang_String_I_Z rfl) rfl (by show 2 * 0 + _ ≤ _; exact Nat.le_of_eq rfl) (hb hby djdk42m76_3) (fun _ _ => ⟨rfl, e0, (by decide : 0 + 0 ≤ _), (by decide : 0 + 0 ≤ _)⟩)
  dsimp only [Pt.U, Pt.locs, Pt.cells, Pt.slots] at X880 l880 y880 z880 st880 hQ880
  subst l880 y880 z880
  obtain ⟨rfl, NQ880, K880⟩ := hQ880
  have N881 := Fr.app N0 NQ880
  refine Rch.st (fun _ k => st880.trans k) ?_
  show Rch p e below T880 (mkF m 6 #[.val (.ref aa), .val (.ref pa)] [(.int (own_sw c0 pc0))]) _
  exact Rch.retV X880 hx Bd.returns (by unfold own_sw; split <;> rfl) (Or.inl ⟨rfl, by simp, _, rfl⟩) (hb hby djdk42m76_6) (by rw [K880]; exact ⟨rfl, N881, rfl⟩) (by decide) (by decide)

theorem ef_rm_init4_0 (m : MethodId) (a5 : Addr) (ca : Addr) (kc : ClassId)  : entryFrame m #[(.ref a5), (.ref ca), (.int (0 : Int32)), (.int (0 : Int32)), .null] 6 = mkF m 0 #[.val (.ref a5), .val (.ref ca), .val (.int (0 : Int32)), .val (.int (0 : Int32)), .val .null, .unset] [] := by  first | (simp [entryFrame, mkF, argsToLocals, Value.category, maxLocals]; done) | rfl
def Q_rm_init4_0 (Z : State) (a5 : Addr) (ca : Addr) (kc : ClassId) (h0 : Heap) (n0 : Nat) (v : Option Value) (h : Heap) (vm : Vm) (L : List Loc) : Prop := ∃ (t : Addr) (kt : ClassId), (v = none) ∧ (Fr n0 L) ∧ (Keep h0 h [a5]) ∧ (Fld Z h a5 "java/lang/String" "coder" "B" (.int (0 : Int32))) ∧ (Fld Z h a5 "java/lang/String" "value" "[B" (.ref t)) ∧ (Arv Z h t kt .byte (0 : Int32) [] (.int (0 : Int32))) ∧ (IB Z vm ([""] : List String))
set_option maxRecDepth 65536 in
set_option maxHeartbeats 40000000 in
theorem rm_init4_0 (l : Launch) (Z : State) (a0 : Array Value) (hw : ∀ d ∈ tables_1, d.before a0 Z = true) (ws : List Jvm.Cond) (a5 : Addr) (ca : Addr) (kc : ClassId) (h0 : Heap) (n0 : Nat) (Z0 : n0 ≤ h0.size) (H7 : Jvm.Lit.constHeld Z "java/lang/String" 7) (hcw : Jvm.Lit.compactW.before a0 Z = true) (f2 : Exa Z h0 a5 "java/lang/String") (f3 : Fld Z h0 a5 "java/lang/String" "coder" "B" (.int (0 : Int32))) (f4 : Fld Z h0 a5 "java/lang/String" "value" "[B" .null) (f5 : Arv Z h0 ca kc .char (0 : Int32) [] (.int (0 : Int32))) (ga : n0 ≤ a5) (nca : a5 ≠ ca) (Old0 : OldL Z n0 h0) :
    MetFree l (⟨"java/lang/String", "<init>", "([CIILjava/lang/Void;)V"⟩ : MethodName) (head1 (Jvm.Cond.code (⟨"java/lang/String", "<init>", "([CIILjava/lang/Void;)V"⟩ : MethodName) jdk_42_method_149_code 6 none :: ws) ({ frames := 1, cells := 2, slots := 4, locals := 12 } : Room)) (fun a U => a = #[(.ref a5), (.ref ca), (.int (0 : Int32)), (.int (0 : Int32)), .null] ∧ Z.Warmed39 U.vm ∧ U.heap = h0 ∧ IB Z U.vm ([] : List String)) (fun _ _ _ _ _ => True) (fun _ U o U' => ∃ v L, o = .returned v ∧ Q_rm_init4_0 Z a5 ca kc h0 n0 v U'.heap U'.vm L ∧ ReturnedEndW U o U' L ({ frames := 1, cells := 2, slots := 4, locals := 12 } : Room).cells ({ frames := 1, cells := 2, slots := 4, locals := 12 } : Room).slots) := by
  refine MetFree.of_bodySF (plainFor_of_name pn_java_lang_String) hisR ?_
  intro p e s m args below meth c s₁ Bd hml0 hP hK
  obtain ⟨rfl, hZ, hh, hI⟩ := hP
  have hx := Bd.exec
  have hby := Bd.bytes
  have hml : c.maxLocals = 6 := hml0
  have hown : s.vm.findClass "java/lang/String" = some m.cls := findClass_of_methodNamed Bd.named
  have hnm := (name_of_methodNamed Bd.named Bd.method).1
  have X0 : Stand p l e ({ frames := 1, cells := 2, slots := 4, locals := 12 } : Room) (s.setVm s.vm) m #[(.ref a5), (.ref ca), (.int (0 : Int32)), (.int (0 : Int32)), .null] below meth c s₁ [] 0 0 := Stand.of_body Bd
  have e0 : s₁.heap = h0 := by rw [← hh, Bd.state]; rfl
  have N0 := Fr.nil n0
  have K00 : Keep h0 h0 [a5] := Keep.refl _ _
  have hlk0 : meth.locks = false := by first | assumption | exact BodyLoose.notSynchronized (by assumption) | exact Body.notSynchronized (by assumption)
  have hS0 : s.Since s.vm s.heap.size := (State.WarmedH.refl s).since _
  have hk0 : s.heap.size ≤ h0.size := by rw [hh]; exact Nat.le_refl _
  have hkeep : ∀ (b : Addr) (cl : Cell), Z.heap[b]? = some cl → s.heap[b]? = some cl := by rw [hh]; exact Old0.2.2
  show Rch p e below s₁ (entryFrame m #[(.ref a5), (.ref ca), (.int (0 : Int32)), (.int (0 : Int32)), .null] 6) (FinW s (Q_rm_init4_0 Z a5 ca kc h0 n0) 2 4)
  refine Rch.cast (ef_rm_init4_0 m a5 ca kc) ?_
  show Rch p e below s₁ (mkF m 0 #[.val (.ref a5), .val (.ref ca), .val (.int (0 : Int32)), .val (.int (0 : Int32)), .val .null, .unset] []) _
  refine w_aloadN (pc' := 1) X0 hx hby djdk42m149_0 rfl rfl rfl ?_
  obtain ⟨T882, X882, e882, st882⟩ := initO X0 hx hZ hown (hw _ (List.mem_of_getElem? (i := 12) rfl)) (hw _ (List.mem_of_getElem? (i := 13) rfl)) (hw _ (List.mem_of_getElem? (i := 14) rfl)) e0 (g := (mkF m 1 #[.val (.ref a5), .val (.ref ca), .val (.int (0 : Int32)), .val (.int (0 : Int32)), .val .null, .unset] [(.ref a5)])) rfl (by rw [hml]; rfl) rfl (hb hby djdk42m149_1) (by decide) (W := 0) (by show 2 * 0 + _ ≤ _; exact Nat.le_of_eq rfl) (by decide)
  refine Rch.st (fun _ k => st882 _ k) ?_
  show Rch p e below T882 (mkF m 4 #[.val (.ref a5), .val (.ref ca), .val (.int (0 : Int32)), .val (.int (0 : Int32)), .val .null, .unset] []) _
  refine w_iloadN (pc' := 5) X882 hx hby djdk42m149_4 rfl rfl ?_
  refine w_ifNo (pc' := 8) X882 hx hby djdk42m149_5 (XT.i0_ne_f (by decide)) rfl ?_
  refine w_aloadN (pc' := 9) X882 hx hby djdk42m149_8 rfl rfl rfl ?_
  obtain ⟨a883, T883, h883, k883, b883, kc883, X883, e883, E883, hS883, hk883, hZ883, hown883, Ex883, Fc883, Fv883, Va883, lt883, lu883, I883, Li883, st883⟩ := ldcSVL (s := s) (vm0 := s.vm) X882 hx hZ hown (hw _ (List.mem_of_getElem? (i := 15) rfl)) (fun d hd => hw d ((by decide +kernel : ∀ d ∈ Bundle.stringAtoms, d ∈ tables_1) d hd)) e882 hS0 hk0 (Fr.nil _) hkeep hI (by decide) H7 hcw (vs := []) (z := (0 : Int32)) ⟨by decide, by decide⟩ (by decide) (by decide) (g := (mkF m 9 #[.val (.ref a5), .val (.ref ca), .val (.int (0 : Int32)), .val (.int (0 : Int32)), .val .null, .unset] [(.ref a5)])) rfl (hb hby djdk42m149_9) (n := 0) (by decide) (by decide) (by decide) (by decide)
  have hk884 := Nat.le_trans hk0 E883.1
  have f885 : Exa Z h883 a5 "java/lang/String" := f2.ext E883
  have f886 : Fld Z h883 a5 "java/lang/String" "coder" "B" (.int (0 : Int32)) := f3.ext E883
  have f887 : Fld Z h883 a5 "java/lang/String" "value" "[B" .null := f4.ext E883
  have f888 : Arv Z h883 ca kc .char (0 : Int32) [] (.int (0 : Int32)) := f5.ext E883
  have Old889 := Old0.ext E883
  have Z890 := Nat.le_trans Z0 E883.1
  have Kp891 : Keep h0 h883 [a5] := K00.ext E883
  refine Rch.st (fun _ k => st883 _ k) ?_
  show Rch p e below T883 (mkF m 11 #[.val (.ref a5), .val (.ref ca), .val (.int (0 : Int32)), .val (.int (0 : Int32)), .val .null, .unset] [(.ref a883), (.ref a5)]) _
  have ne892 : a883 ≠ a5 := Fld.ne Fv883 f887 (fun q => by cases q)
  have ne893 : a5 ≠ b883 := Exa.neArv f885 Va883 (hw _ (List.mem_of_getElem? (i := 3) rfl))
  obtain ⟨T894, X894, e894, st894⟩ := getF X883 hx hZ883 hown883 (host := "") (Or.inl (hw _ (List.mem_of_getElem? (i := 21) rfl))) Via.refl e883 Fv883 (g := (mkF m 11 #[.val (.ref a5), .val (.ref ca), .val (.int (0 : Int32)), .val (.int (0 : Int32)), .val .null, .unset] [(.ref a883), (.ref a5)])) rfl rfl (hb hby djdk42m149_11)
  refine Rch.st (fun _ k => st894 _ k) ?_
  show Rch p e below T894 (mkF m 14 #[.val (.ref a5), .val (.ref ca), .val (.int (0 : Int32)), .val (.int (0 : Int32)), .val .null, .unset] [(.ref b883), (.ref a5)]) _
  obtain ⟨T895, h895, X895, e895, W895, st895⟩ := putF X894 hx hZ883 hown883 (host := "") (Or.inl (hw _ (List.mem_of_getElem? (i := 21) rfl))) Via.refl e894 f887 f885 (Or.inr ⟨(hw _ (List.mem_of_getElem? (i := 17) rfl)), rfl, hnm⟩) (hw _ (List.mem_of_getElem? (i := 3) rfl)) (ty := (.array .byte)) (by decide) rfl rfl (g := (mkF m 14 #[.val (.ref a5), .val (.ref ca), .val (.int (0 : Int32)), .val (.int (0 : Int32)), .val .null, .unset] [(.ref b883), (.ref a5)])) rfl rfl (hb hby djdk42m149_14)
  have N896 := Fr.snoc X895 N0 ga
  have f897 : Exa Z h895 a5 "java/lang/String" := f885.wr W895
  have f898 : Fld Z h895 a5 "java/lang/String" "coder" "B" (.int (0 : Int32)) := f886.other W895 (Or.inr (slot_ne (t := .byte) (t' := (.array .byte)) (Or.inr (hw _ (List.mem_of_getElem? (i := 18) rfl))) (Or.inr (hw _ (List.mem_of_getElem? (i := 17) rfl))) (by decide) (by decide) (by decide)))
  have f899 : Fld Z h895 a5 "java/lang/String" "value" "[B" (.ref b883) := f887.same W895
  have f900 : Arv Z h895 ca kc .char (0 : Int32) [] (.int (0 : Int32)) := f888.other W895 (Ne.symm nca)
  have f901 : Exa Z h895 a883 "java/lang/String" := Ex883.wr W895
  have f902 : Fld Z h895 a883 "java/lang/String" "coder" "B" (.int (0 : Int32)) := Fc883.other W895 (Or.inl ne892)
  have f903 : Fld Z h895 a883 "java/lang/String" "value" "[B" (.ref b883) := Fv883.other W895 (Or.inl ne892)
  have f904 : Arv Z h895 b883 kc883 .byte (0 : Int32) [] (.int (0 : Int32)) := Va883.other W895 (Ne.symm ne893)
  have Old905 := Old889.wr W895 ga
  have Z906 := Nat.le_trans Z890 (Keep.of_wr W895).1
  have hk907 := Nat.le_trans hk883 (Keep.of_wr W895).1
  have Kp908 : Keep h0 h895 [a5] := Kp891.wr W895 (Or.inl (List.mem_of_getElem? (i := 0) rfl))
  refine Rch.st (fun _ k => st895 _ k) ?_
  show Rch p e below T895 (mkF m 17 #[.val (.ref a5), .val (.ref ca), .val (.int (0 : Int32)), .val (.int (0 : Int32)), .val .null, .unset] []) _
  refine w_aloadN (pc' := 18) X895 hx hby djdk42m149_17 rfl rfl rfl ?_
  have st909 := ldcAgain (s := s) (vm0 := T883.vm) X895 hx hZ883 hown883 (hw _ (List.mem_of_getElem? (i := 15) rfl)) Li883 (g := (mkF m 18 #[.val (.ref a5), .val (.ref ca), .val (.int (0 : Int32)), .val (.int (0 : Int32)), .val .null, .unset] [(.ref a5)])) rfl (hb hby djdk42m149_18)
  refine Rch.st (fun _ k => st909 _ k) ?_
  show Rch p e below T895 (mkF m 20 #[.val (.ref a5), .val (.ref ca), .val (.int (0 : Int32)), .val (.int (0 : Int32)), .val .null, .unset] [(.ref a883), (.ref a5)]) _
  obtain ⟨T910, X910, e910, st910⟩ := getF X895 hx hZ883 hown883 (host := "") (Or.inl (hw _ (List.mem_of_getElem? (i := 22) rfl))) Via.refl e895 f902 (g := (mkF m 20 #[.val (.ref a5), .val (.ref ca), .val (.int (0 : Int32)), .val (.int (0 : Int32)), .val .null, .unset] [(.ref a883), (.ref a5)])) rfl rfl (hb hby djdk42m149_20)
  refine Rch.st (fun _ k => st910 _ k) ?_
  show Rch p e below T910 (mkF m 23 #[.val (.ref a5), .val (.ref ca), .val (.int (0 : Int32)), .val (.int (0 : Int32)), .val .null, .unset] [(.int (0 : Int32)), (.ref a5)]) _
  obtain ⟨T911, h911, X911, e911, W911, st911⟩ := putF X910 hx hZ883 hown883 (host := "") (Or.inl (hw _ (List.mem_of_getElem? (i := 22) rfl))) Via.refl e910 f898 f897 (Or.inr ⟨(hw _ (List.mem_of_getElem? (i := 18) rfl)), rfl, hnm⟩) (hw _ (List.mem_of_getElem? (i := 3) rfl)) (ty := .byte) (by decide) rfl rfl (g := (mkF m 23 #[.val (.ref a5), .val (.ref ca), .val (.int (0 : Int32)), .val (.int (0 : Int32)), .val .null, .unset] [(.int (0 : Int32)), (.ref a5)])) rfl rfl (hb hby djdk42m149_23)
  have N912 := Fr.snoc X911 N896 ga
  have f913 : Exa Z h911 a5 "java/lang/String" := f897.wr W911
  have f914 : Fld Z h911 a5 "java/lang/String" "coder" "B" (.int (0 : Int32)) := f898.same W911
  have f915 : Fld Z h911 a5 "java/lang/String" "value" "[B" (.ref b883) := f899.other W911 (Or.inr (slot_ne (t := (.array .byte)) (t' := .byte) (Or.inr (hw _ (List.mem_of_getElem? (i := 17) rfl))) (Or.inr (hw _ (List.mem_of_getElem? (i := 18) rfl))) (by decide) (by decide) (by decide)))
  have f916 : Arv Z h911 ca kc .char (0 : Int32) [] (.int (0 : Int32)) := f900.other W911 (Ne.symm nca)
  have f917 : Exa Z h911 a883 "java/lang/String" := f901.wr W911
  have f918 : Fld Z h911 a883 "java/lang/String" "coder" "B" (.int (0 : Int32)) := f902.other W911 (Or.inl ne892)
  have f919 : Fld Z h911 a883 "java/lang/String" "value" "[B" (.ref b883) := f903.other W911 (Or.inl ne892)
  have f920 : Arv Z h911 b883 kc883 .byte (0 : Int32) [] (.int (0 : Int32)) := f904.other W911 (Ne.symm ne893)
  have Old921 := Old905.wr W911 ga
  have Z922 := Nat.le_trans Z906 (Keep.of_wr W911).1
  have hk923 := Nat.le_trans hk907 (Keep.of_wr W911).1
  have Kp924 : Keep h0 h911 [a5] := Kp908.wr W911 (Or.inl (List.mem_of_getElem? (i := 0) rfl))
  refine Rch.st (fun _ k => st911 _ k) ?_
  show Rch p e below T911 (mkF m 26 #[.val (.ref a5), .val (.ref ca), .val (.int (0 : Int32)), .val (.int (0 : Int32)), .val .null, .unset] []) _
  exact Rch.ret0W X911 hx hS883 (by rw [e911]; exact hk923) Bd.returns (hb hby djdk42m149_26) (by rw [e911]; exact ⟨b883, kc883, rfl, N912, Kp924, f914, f915, f920, own_ib_mono (own_ib (s := s.setVm T883.vm) I883 X911.warmed) (by decide)⟩) (by decide) (by decide)

theorem ef_rm_init1_0 (m : MethodId) (a5 : Addr) (ca : Addr) (kc : ClassId)  : entryFrame m #[(.ref a5), (.ref ca)] 2 = mkF m 0 #[.val (.ref a5), .val (.ref ca)] [] := by  first | (simp [entryFrame, mkF, argsToLocals, Value.category, maxLocals]; done) | rfl
def Q_rm_init1_0 (Z : State) (a5 : Addr) (ca : Addr) (kc : ClassId) (h0 : Heap) (n0 : Nat) (v : Option Value) (h : Heap) (vm : Vm) (L : List Loc) : Prop := ∃ (t : Addr) (kt : ClassId), (v = none) ∧ (Fr n0 L) ∧ (Keep h0 h [a5]) ∧ (Fld Z h a5 "java/lang/String" "coder" "B" (.int (0 : Int32))) ∧ (Fld Z h a5 "java/lang/String" "value" "[B" (.ref t)) ∧ (Arv Z h t kt .byte (0 : Int32) [] (.int (0 : Int32))) ∧ (IB Z vm ([""] : List String))
set_option maxRecDepth 65536 in
set_option maxHeartbeats 40000000 in
theorem rm_init1_0 (l : Launch) (Z : State) (a0 : Array Value) (hw : ∀ d ∈ tables_1, d.before a0 Z = true) (ws : List Jvm.Cond) (a5 : Addr) (ca : Addr) (kc : ClassId) (h0 : Heap) (n0 : Nat) (Z0 : n0 ≤ h0.size) (H7 : Jvm.Lit.constHeld Z "java/lang/String" 7) (hcw : Jvm.Lit.compactW.before a0 Z = true) (f2 : Exa Z h0 a5 "java/lang/String") (f3 : Fld Z h0 a5 "java/lang/String" "coder" "B" (.int (0 : Int32))) (f4 : Fld Z h0 a5 "java/lang/String" "value" "[B" .null) (f5 : Arv Z h0 ca kc .char (0 : Int32) [] (.int (0 : Int32))) (ga : n0 ≤ a5) (nca : a5 ≠ ca) (Old0 : OldL Z n0 h0) :
    MetFree l (⟨"java/lang/String", "<init>", "([C)V"⟩ : MethodName) (head1 (Jvm.Cond.code (⟨"java/lang/String", "<init>", "([C)V"⟩ : MethodName) jdk_42_method_3_code 2 none :: ws) ({ frames := 2, cells := 2, slots := 4, locals := 29 } : Room)) (fun a U => a = #[(.ref a5), (.ref ca)] ∧ Z.Warmed39 U.vm ∧ U.heap = h0 ∧ IB Z U.vm ([] : List String)) (fun _ _ _ _ _ => True) (fun _ U o U' => ∃ v L, o = .returned v ∧ Q_rm_init1_0 Z a5 ca kc h0 n0 v U'.heap U'.vm L ∧ ReturnedEndW U o U' L ({ frames := 2, cells := 2, slots := 4, locals := 29 } : Room).cells ({ frames := 2, cells := 2, slots := 4, locals := 29 } : Room).slots) := by
  refine MetFree.of_bodySF (plainFor_of_name pn_java_lang_String) hisR ?_
  intro p e s m args below meth c s₁ Bd hml0 hP hK
  obtain ⟨rfl, hZ, hh, hI⟩ := hP
  have hx := Bd.exec
  have hby := Bd.bytes
  have hml : c.maxLocals = 2 := hml0
  have hown : s.vm.findClass "java/lang/String" = some m.cls := findClass_of_methodNamed Bd.named
  have hnm := (name_of_methodNamed Bd.named Bd.method).1
  have X0 : Stand p l e ({ frames := 2, cells := 2, slots := 4, locals := 29 } : Room) (s.setVm s.vm) m #[(.ref a5), (.ref ca)] below meth c s₁ [] 0 0 := Stand.of_body Bd
  have e0 : s₁.heap = h0 := by rw [← hh, Bd.state]; rfl
  have N0 := Fr.nil n0
  have K00 : Keep h0 h0 [a5] := Keep.refl _ _
  have hlk0 : meth.locks = false := by first | assumption | exact BodyLoose.notSynchronized (by assumption) | exact Body.notSynchronized (by assumption)
  have hS0 : s.Since s.vm s.heap.size := (State.WarmedH.refl s).since _
  have hk0 : s.heap.size ≤ h0.size := by rw [hh]; exact Nat.le_refl _
  have hkeep : ∀ (b : Addr) (cl : Cell), Z.heap[b]? = some cl → s.heap[b]? = some cl := by rw [hh]; exact Old0.2.2
  show Rch p e below s₁ (entryFrame m #[(.ref a5), (.ref ca)] 2) (FinW s (Q_rm_init1_0 Z a5 ca kc h0 n0) 2 4)
  refine Rch.cast (ef_rm_init1_0 m a5 ca kc) ?_
  show Rch p e below s₁ (mkF m 0 #[.val (.ref a5), .val (.ref ca)] []) _
  refine w_aloadN (pc' := 1) X0 hx hby djdk42m3_0 rfl rfl rfl ?_
  refine w_aloadN (pc' := 2) X0 hx hby djdk42m3_1 rfl rfl rfl ?_
  refine w_iconst (pc' := 3) (v := 0) X0 hx hby djdk42m3_2 rfl rfl ?_
  refine w_aloadN (pc' := 4) X0 hx hby djdk42m3_3 rfl rfl rfl ?_
  refine Rch.st (fun _ k => own_alen X0 hx hZ e0 f5 rfl rfl (hb hby djdk42m3_4) k) ?_
  show Rch p e below s₁ (mkF m 5 #[.val (.ref a5), .val (.ref ca)] [(.int (0 : Int32)), (.int (0 : Int32)), (.ref ca), (.ref a5)]) _
  refine w_aconstNull (pc' := 6) X0 hx hby djdk42m3_5 rfl ?_
  obtain ⟨_, _, ⟨T925, L925, k925, n925⟩, -, X925, hSx925, hgx925, ⟨Lc925, hQ925, l925, y925, z925⟩, st925⟩ := X0.specialBackS hx (y := (⟨"java/lang/String", "<init>", "([CIILjava/lang/Void;)V"⟩ : MethodName)) rfl hown (mvT hZ (hw _ (List.mem_of_getElem? (i := 8) rfl))) (mvT hZ (hw _ (List.mem_of_getElem? (i := 9) rfl))) (mvT hZ (hw _ (List.mem_of_getElem? (i := 11) rfl))) (by decide) (backOfI (Ts := ([] : List String)) (W := 0) (rm_init4_0 l Z a0 hw [] a5 ca kc h0 n0 Z0 (H7) (hcw) f2 f3 f4 f5 (ga) (nca) Old0) hZ hI (hw _ (List.mem_of_getElem? (i := 11) rfl)) (hw _ (List.mem_of_getElem? (i := 4) rfl)) (by decide) (by decide)) (g := (mkF m 6 #[.val (.ref a5), .val (.ref ca)] [.null, (.int (0 : Int32)), (.int (0 : Int32)), (.ref ca), (.ref a5)])) rfl (by rw [hml]; rfl) (Steps.refl _) (a := a5) (argsL := [(.ref ca), (.int (0 : Int32)), (.int (0 : Int32)), .null]) (rest := []) (lenOf pd___CIILjava_lang_Void__V rfl) rfl (by show 2 * 0 + _ ≤ _; exact Nat.le_of_eq rfl) (hb hby djdk42m3_6) (fun _ _ => ⟨rfl, e0, (by decide : 0 + 2 ≤ _), (by decide : 0 + 4 ≤ _)⟩)
  dsimp only [Pt.U, Pt.locs, Pt.cells, Pt.slots] at X925 l925 y925 z925 st925 hQ925 hSx925 hgx925
  subst l925 y925 z925
  have hS925 := foldS hS0 (by rw [e0]; exact hk0) hSx925 hgx925
  have hk925 : T925.heap.size ≤ T925.heap.size := Nat.le_refl _
  have hZ925 : Z.Warmed39 (s.setVm T925.vm).vm := State.Warmed39.trans (t := s.setVm s.vm) hZ hSx925.1
  have hown925 : (s.setVm T925.vm).vm.findClass "java/lang/String" = some m.cls := by rw [show (s.setVm T925.vm).vm = T925.vm from rfl, hSx925.1.alike.findClass]; exact hown
  have X925w : Stand p l e ({ frames := 2, cells := 2, slots := 4, locals := 29 } : Room) (s.setVm T925.vm) m _ below meth c T925 _ _ _ := X925
  obtain ⟨t_925, kt_925, rfl, NQ925, K925, fq925_0, fq925_1, fq925_2, IQ925⟩ := hQ925
  have N926 := Fr.app N0 NQ925
  have f927 : Exa Z T925.heap a5 "java/lang/String" := f2.keep K925
  have f928 : Arv Z T925.heap ca kc .char (0 : Int32) [] (.int (0 : Int32)) := f5.keep K925 (ninS (Ne.symm nca) nin0)
  have Old929 := Old0.keep K925 (allS ga all0)
  have Kp930 : Keep h0 T925.heap [a5] := K00.trans K925 (allS (Or.inl (List.mem_of_getElem? (i := 0) rfl)) all0)
  have Z931 := Nat.le_trans Z0 K925.1
  refine Rch.st (fun _ k => st925.trans k) ?_
  show Rch p e below T925 (mkF m 9 #[.val (.ref a5), .val (.ref ca)] []) _
  exact Rch.ret0W X925w hx hS925 (by rw [(rfl : T925.heap = T925.heap)]; exact hk925) Bd.returns (hb hby djdk42m3_9) (by rw [(rfl : T925.heap = T925.heap)]; exact ⟨t_925, kt_925, rfl, N926, Kp930, fq925_0, fq925_1, fq925_2, own_ib_mono (own_ib (s := s.setVm T925.vm) IQ925 X925w.warmed) (by decide)⟩) (by decide) (by decide)

theorem dprog3m4_0 : decode prog_3_method_4_code 0 = .ok (.aload_n 0, 1) := by decide +kernel
theorem dprog3m4_1 : decode prog_3_method_4_code 1 = .ok (.ldc 54, 2) := by decide +kernel
theorem dprog3m4_3 : decode prog_3_method_4_code 3 = .ok (.invokevirtual 56, 3) := by decide +kernel
theorem dprog3m4_6 : decode prog_3_method_4_code 6 = .ok (.ifCond .ne 12, 3) := by decide +kernel
theorem dprog3m4_9 : decode prog_3_method_4_code 9 = .ok (.aload_n 0, 1) := by decide +kernel
theorem dprog3m4_10 : decode prog_3_method_4_code 10 = .ok (.ldc 59, 2) := by decide +kernel
theorem dprog3m4_12 : decode prog_3_method_4_code 12 = .ok (.invokevirtual 56, 3) := by decide +kernel
theorem dprog3m4_15 : decode prog_3_method_4_code 15 = .ok (.ifCond .eq 7, 3) := by decide +kernel
theorem dprog3m4_18 : decode prog_3_method_4_code 18 = .ok (.iconst 1, 1) := by decide +kernel
theorem dprog3m4_19 : decode prog_3_method_4_code 19 = .ok (.goto 4, 3) := by decide +kernel
theorem dprog3m4_22 : decode prog_3_method_4_code 22 = .ok (.iconst 0, 1) := by decide +kernel
theorem dprog3m4_23 : decode prog_3_method_4_code 23 = .ok (.ireturn, 1) := by decide +kernel
theorem pn_com_example_alcance_alcance_Identifiers : plainName "com/example/alcance/alcance/Identifiers" = true := by first | (simp [plainName, overriddenIn]; done) | decide +kernel
theorem ef_rm_iq_0 (m : MethodId) (G1 : Int32) (aa : Addr) (bb : Addr) (kb : ClassId) (nn : Int32) (vs : List Value) (dd : Value)  : entryFrame m #[(.ref aa)] 1 = mkF m 0 #[.val (.ref aa)] [] := by  first | (simp [entryFrame, mkF, argsToLocals, Value.category, maxLocals]; done) | rfl
def Q_rm_iq_0 (Z : State) (G1 : Int32) (aa : Addr) (bb : Addr) (kb : ClassId) (nn : Int32) (vs : List Value) (dd : Value) (h0 : Heap) (n0 : Nat) (v : Option Value) (h : Heap) (vm : Vm) (L : List Loc) : Prop := (v = some (.int (0 : Int32))) ∧ (Fr n0 L) ∧ (Keep h0 h []) ∧ (IB Z vm (["`", "\"", ""] : List String))
theorem pd__Ljava_lang_String__Z : parseMethodDescriptor "(Ljava/lang/String;)Z" = some ⟨[(.object "java/lang/String")], (some .boolean)⟩ := by decide +kernel
set_option maxRecDepth 65536 in
set_option maxHeartbeats 40000000 in
theorem rm_iq_0 (l : Launch) (Z : State) (a0 : Array Value) (hw : ∀ d ∈ tables_1, d.before a0 Z = true) (ws : List Jvm.Cond) (G1 : Int32) (aa : Addr) (bb : Addr) (kb : ClassId) (nn : Int32) (vs : List Value) (dd : Value) (h0 : Heap) (n0 : Nat) (Z0 : n0 ≤ h0.size) (O2 : Sta Z Z.heap "java/lang/String" "COMPACT_STRINGS" "Z" (.int G1)) (P5 : ¬ G1 = 0) (f2 : Exa Z h0 aa "java/lang/String") (f3 : Fld Z h0 aa "java/lang/String" "coder" "B" (.int (0 : Int32))) (f4 : Fld Z h0 aa "java/lang/String" "value" "[B" (.ref bb)) (f5 : Arv Z h0 bb kb .byte nn vs dd) (h1 : ((nn >>> ((0 : Int32) &&& 31)) - (1 : Int32)) < (0 : Int32)) (H54 : Jvm.Lit.constHeld Z "com/example/alcance/alcance/Identifiers" 54) (H59 : Jvm.Lit.constHeld Z "com/example/alcance/alcance/Identifiers" 59) (hcw : Jvm.Lit.compactW.before a0 Z = true) (Old0 : OldL Z n0 h0) :
    MetFree l (⟨"com/example/alcance/alcance/Identifiers", "isQuoted", "(Ljava/lang/String;)Z"⟩ : MethodName) (head1 (Jvm.Cond.code (⟨"com/example/alcance/alcance/Identifiers", "isQuoted", "(Ljava/lang/String;)Z"⟩ : MethodName) prog_3_method_4_code 1 (some .boolean) :: ws) ({ frames := 4, cells := 4, slots := 16, locals := 59 } : Room)) (fun a U => a = #[(.ref aa)] ∧ Z.Warmed39 U.vm ∧ U.heap = h0 ∧ IB Z U.vm ([""] : List String)) (fun _ _ _ _ _ => True) (fun _ U o U' => ∃ v L, o = .returned v ∧ Q_rm_iq_0 Z G1 aa bb kb nn vs dd h0 n0 v U'.heap U'.vm L ∧ ReturnedEndW U o U' L ({ frames := 4, cells := 4, slots := 16, locals := 59 } : Room).cells ({ frames := 4, cells := 4, slots := 16, locals := 59 } : Room).slots) := by
  refine MetFree.of_bodySF (plainFor_of_name pn_com_example_alcance_alcance_Identifiers) hisR ?_
  intro p e s m args below meth c s₁ Bd hml0 hP hK
  obtain ⟨rfl, hZ, hh, hI⟩ := hP
  have hx := Bd.exec
  have hby := Bd.bytes
  have hml : c.maxLocals = 1 := hml0
  have hown : s.vm.findClass "com/example/alcance/alcance/Identifiers" = some m.cls := findClass_of_methodNamed Bd.named
  have hnm := (name_of_methodNamed Bd.named Bd.method).1
  have X0 : Stand p l e ({ frames := 4, cells := 4, slots := 16, locals := 59 } : Room) (s.setVm s.vm) m #[(.ref aa)] below meth c s₁ [] 0 0 := Stand.of_body Bd
  have e0 : s₁.heap = h0 := by rw [← hh, Bd.state]; rfl
  have N0 := Fr.nil n0
  have K00 : Keep h0 h0 [] := Keep.refl _ _
  have hlk0 : meth.locks = false := by first | assumption | exact BodyLoose.notSynchronized (by assumption) | exact Body.notSynchronized (by assumption)
  have hS0 : s.Since s.vm s.heap.size := (State.WarmedH.refl s).since _
  have hk0 : s.heap.size ≤ h0.size := by rw [hh]; exact Nat.le_refl _
  have hkeep : ∀ (b : Addr) (cl : Cell), Z.heap[b]? = some cl → s.heap[b]? = some cl := by rw [hh]; exact Old0.2.2
  show Rch p e below s₁ (entryFrame m #[(.ref aa)] 1) (FinW s (Q_rm_iq_0 Z G1 aa bb kb nn vs dd h0 n0) 4 16)
  refine Rch.cast (ef_rm_iq_0 m G1 aa bb kb nn vs dd) ?_
  have Z0f := Nat.le_refl h0.size
  have N0f := Fr.nil h0.size
  have OldF := Old0.up Z0
  show Rch p e below s₁ (mkF m 0 #[.val (.ref aa)] []) _
  refine w_aloadN (pc' := 1) X0 hx hby dprog3m4_0 rfl rfl rfl ?_
  obtain ⟨a932, T932, h932, k932, b932, kc932, X932, e932, E932, hS932, hk932, hZ932, hown932, Ex932, Fc932, Fv932, Va932, lt932, lu932, I932, Li932, st932⟩ := ldcSVL (s := s) (vm0 := s.vm) X0 hx hZ hown (hw _ (List.mem_of_getElem? (i := 27) rfl)) (fun d hd => hw d ((by decide +kernel : ∀ d ∈ Bundle.stringAtoms, d ∈ tables_1) d hd)) e0 hS0 hk0 (Fr.nil _) hkeep hI (by decide) H54 hcw (vs := [(.int (34 : Int32))]) (z := (1 : Int32)) ⟨by decide, by decide⟩ (by decide) (by decide) (g := (mkF m 1 #[.val (.ref aa)] [(.ref aa)])) rfl (hb hby dprog3m4_1) (n := 4) (by decide) (by decide) (by decide) (by decide)
  have hk933 := Nat.le_trans hk0 E932.1
  have f934 : Exa Z h932 aa "java/lang/String" := f2.ext E932
  have f935 : Fld Z h932 aa "java/lang/String" "coder" "B" (.int (0 : Int32)) := f3.ext E932
  have f936 : Fld Z h932 aa "java/lang/String" "value" "[B" (.ref bb) := f4.ext E932
  have f937 : Arv Z h932 bb kb .byte nn vs dd := f5.ext E932
  have Old938 := OldF.ext E932
  have Z939 := Nat.le_trans Z0f E932.1
  have Kp940 : Keep h0 h932 [] := K00.ext E932
  refine Rch.st (fun _ k => st932 _ k) ?_
  show Rch p e below T932 (mkF m 3 #[.val (.ref aa)] [(.ref a932), (.ref aa)]) _
  obtain ⟨cq941, kq941, q941a, q941b, q941c⟩ := isOf hZ932 e932 f934
  obtain ⟨_, _, ⟨T941, L941, k941, n941⟩, -, X941, ⟨Lc941, hQ941, l941, y941, z941⟩, st941⟩ := X932.virtualBack hx (y := (⟨"java/lang/String", "startsWith", "(Ljava/lang/String;)Z"⟩ : MethodName)) (z := (⟨"java/lang/String", "startsWith", "(Ljava/lang/String;)Z"⟩ : MethodName)) hown932 (mvT hZ932 (hw _ (List.mem_of_getElem? (i := 28) rfl))) (mvT hZ932 (hw _ (List.mem_of_getElem? (i := 29) rfl))) (notFace_of_selects (args := #[]) (mvT hZ932 (hw _ (List.mem_of_getElem? (i := 31) rfl)))) (mvT hZ932 (hw _ (List.mem_of_getElem? (i := 31) rfl))) (mvT hZ932 (hw _ (List.mem_of_getElem? (i := 30) rfl))) (by decide) (backOf (W := 0) (rm_sw1_0 l Z a0 hw [] G1 aa bb kb nn vs dd a932 b932 kc932 (34 : Int32) h932 h0.size Z939 (O2) (P5) f934 f935 f936 f937 Ex932 Fc932 Fv932 Va932 (h1) Old938) hZ932 (hw _ (List.mem_of_getElem? (i := 32) rfl)) (hw _ (List.mem_of_getElem? (i := 4) rfl)) (by decide) (by decide)) q941a q941c (g := (mkF m 3 #[.val (.ref aa)] [(.ref a932), (.ref aa)])) rfl (by rw [hml]; rfl) (Steps.refl _) (argsL := [(.ref a932)]) (rest := []) (lenOf pd__Ljava_lang_String__Z rfl) rfl (by show 2 * 0 + _ ≤ _; exact Nat.le_of_eq rfl) (hb hby dprog3m4_3) (fun _ _ => ⟨rfl, e932, (by decide : 2 + 0 ≤ _), (by decide : 8 + 0 ≤ _)⟩)
  dsimp only [Pt.U, Pt.locs, Pt.cells, Pt.slots] at X941 l941 y941 z941 st941 hQ941
  subst l941 y941 z941
  obtain ⟨rfl, NQ941, K941⟩ := hQ941
  have N942 := Fr.app N0f NQ941
  refine Rch.st (fun _ k => st941.trans k) ?_
  show Rch p e below T941 (mkF m 6 #[.val (.ref aa)] [(.int (0 : Int32))]) _
  refine w_ifNo (pc' := 9) X941 hx hby dprog3m4_6 (XT.i0_ne_f (by decide)) rfl ?_
  refine w_aloadN (pc' := 10) X941 hx hby dprog3m4_9 rfl rfl rfl ?_
  obtain ⟨a943, T943, h943, k943, b943, kc943, X943, e943, E943, hS943, hk943, hZ943, hown943, Ex943, Fc943, Fv943, Va943, lt943, lu943, I943, Li943, st943⟩ := ldcSVL (s := s) (vm0 := T932.vm) X941 hx hZ932 hown932 (hw _ (List.mem_of_getElem? (i := 49) rfl)) (fun d hd => hw d ((by decide +kernel : ∀ d ∈ Bundle.stringAtoms, d ∈ tables_1) d hd)) K941 hS932 hk932 (by rw [hh]; exact N942) hkeep I932 (by decide) H59 hcw (vs := [(.int (96 : Int32))]) (z := (1 : Int32)) ⟨by decide, by decide⟩ (by decide) (by decide) (g := (mkF m 10 #[.val (.ref aa)] [(.ref aa)])) rfl (hb hby dprog3m4_10) (n := 4) (by decide) (by decide) (by decide) (by decide)
  have hk944 := Nat.le_trans hk932 E943.1
  have f945 : Exa Z h943 aa "java/lang/String" := f934.ext E943
  have f946 : Fld Z h943 aa "java/lang/String" "coder" "B" (.int (0 : Int32)) := f935.ext E943
  have f947 : Fld Z h943 aa "java/lang/String" "value" "[B" (.ref bb) := f936.ext E943
  have f948 : Arv Z h943 bb kb .byte nn vs dd := f937.ext E943
  have f949 : Exa Z h943 a932 "java/lang/String" := Ex932.ext E943
  have f950 : Fld Z h943 a932 "java/lang/String" "coder" "B" (.int (0 : Int32)) := Fc932.ext E943
  have f951 : Fld Z h943 a932 "java/lang/String" "value" "[B" (.ref b932) := Fv932.ext E943
  have f952 : Arv Z h943 b932 kc932 .byte (1 : Int32) [(.int (34 : Int32))] (.int (0 : Int32)) := Va932.ext E943
  have Old953 := Old938.ext E943
  have Z954 := Nat.le_trans Z939 E943.1
  have Kp955 : Keep h0 h943 [] := Kp940.ext E943
  refine Rch.st (fun _ k => st943 _ k) ?_
  show Rch p e below T943 (mkF m 12 #[.val (.ref aa)] [(.ref a943), (.ref aa)]) _
  obtain ⟨cq956, kq956, q956a, q956b, q956c⟩ := isOf hZ943 e943 f945
  obtain ⟨_, _, ⟨T956, L956, k956, n956⟩, -, X956, ⟨Lc956, hQ956, l956, y956, z956⟩, st956⟩ := X943.virtualBack hx (y := (⟨"java/lang/String", "startsWith", "(Ljava/lang/String;)Z"⟩ : MethodName)) (z := (⟨"java/lang/String", "startsWith", "(Ljava/lang/String;)Z"⟩ : MethodName)) hown943 (mvT hZ943 (hw _ (List.mem_of_getElem? (i := 28) rfl))) (mvT hZ943 (hw _ (List.mem_of_getElem? (i := 29) rfl))) (notFace_of_selects (args := #[]) (mvT hZ943 (hw _ (List.mem_of_getElem? (i := 31) rfl)))) (mvT hZ943 (hw _ (List.mem_of_getElem? (i := 31) rfl))) (mvT hZ943 (hw _ (List.mem_of_getElem? (i := 30) rfl))) (by decide) (backOf (W := 0) (rm_sw1_0 l Z a0 hw [] G1 aa bb kb nn vs dd a943 b943 kc943 (96 : Int32) h943 h0.size Z954 (O2) (P5) f945 f946 f947 f948 Ex943 Fc943 Fv943 Va943 (h1) Old953) hZ943 (hw _ (List.mem_of_getElem? (i := 32) rfl)) (hw _ (List.mem_of_getElem? (i := 4) rfl)) (by decide) (by decide)) q956a q956c (g := (mkF m 12 #[.val (.ref aa)] [(.ref a943), (.ref aa)])) rfl (by rw [hml]; rfl) (Steps.refl _) (argsL := [(.ref a943)]) (rest := []) (lenOf pd__Ljava_lang_String__Z rfl) rfl (by show 2 * 0 + _ ≤ _; exact Nat.le_of_eq rfl) (hb hby dprog3m4_12) (fun _ _ => ⟨rfl, e943, (by decide : 4 + 0 ≤ _), (by decide : 16 + 0 ≤ _)⟩)
  dsimp only [Pt.U, Pt.locs, Pt.cells, Pt.slots] at X956 l956 y956 z956 st956 hQ956
  subst l956 y956 z956
  obtain ⟨rfl, NQ956, K956⟩ := hQ956
  have N957 := Fr.app N942 NQ956
  refine Rch.st (fun _ k => st956.trans k) ?_
  show Rch p e below T956 (mkF m 15 #[.val (.ref aa)] [(.int (0 : Int32))]) _
  refine w_ifYes (pc' := 22) X956 hx hby dprog3m4_15 (XT.i0_eq_t (by decide)) (by decide) ?_
  refine w_iconst (pc' := 23) (v := 0) X956 hx hby dprog3m4_22 rfl rfl ?_
  exact Rch.retVW X956 hx hS943 (by rw [K956]; exact hk943) Bd.returns rfl (Or.inl ⟨rfl, by simp, _, rfl⟩) (hb hby dprog3m4_23) (by rw [K956]; exact ⟨rfl, (own_Fr Z0 N957), Kp955, own_ib_mono (own_ib (s := s.setVm T943.vm) I943 X956.warmed) (by decide)⟩) (by decide) (by decide)

theorem ef_rm_iq_L (m : MethodId) (G1 : Int32) (aa : Addr) (bb : Addr) (kb : ClassId) (nn : Int32) (vs : List Value) (dd : Value) (c0 : Int32)  : entryFrame m #[(.ref aa)] 1 = mkF m 0 #[.val (.ref aa)] [] := by  first | (simp [entryFrame, mkF, argsToLocals, Value.category, maxLocals]; done) | rfl
def Q_rm_iq_L (Z : State) (G1 : Int32) (aa : Addr) (bb : Addr) (kb : ClassId) (nn : Int32) (vs : List Value) (dd : Value) (c0 : Int32) (h0 : Heap) (n0 : Nat) (v : Option Value) (h : Heap) (vm : Vm) (L : List Loc) : Prop := (v = some (.int (own_iq c0))) ∧ (Fr n0 L) ∧ (Keep h0 h []) ∧ (IB Z vm (["`", "\""] : List String))
set_option maxRecDepth 65536 in
set_option maxHeartbeats 40000000 in
theorem rm_iq_L (l : Launch) (Z : State) (a0 : Array Value) (hw : ∀ d ∈ tables_1, d.before a0 Z = true) (ws : List Jvm.Cond) (G1 : Int32) (aa : Addr) (bb : Addr) (kb : ClassId) (nn : Int32) (vs : List Value) (dd : Value) (c0 : Int32) (h0 : Heap) (n0 : Nat) (Z0 : n0 ≤ h0.size) (O2 : Sta Z Z.heap "java/lang/String" "COMPACT_STRINGS" "Z" (.int G1)) (P5 : ¬ G1 = 0) (f2 : Exa Z h0 aa "java/lang/String") (f3 : Fld Z h0 aa "java/lang/String" "coder" "B" (.int (0 : Int32))) (f4 : Fld Z h0 aa "java/lang/String" "value" "[B" (.ref bb)) (f5 : Arv Z h0 bb kb .byte nn vs dd) (h1 : ¬ ((nn >>> ((0 : Int32) &&& 31)) - (1 : Int32)) < (0 : Int32)) (hn : (0 : Int32) < nn) (hv : vs.getD 0 dd = .int (own_by c0)) (hc0 : ¬ c0 < 0) (hc1 : ¬ (255 : Int32) < c0) (H54 : Jvm.Lit.constHeld Z "com/example/alcance/alcance/Identifiers" 54) (H59 : Jvm.Lit.constHeld Z "com/example/alcance/alcance/Identifiers" 59) (hcw : Jvm.Lit.compactW.before a0 Z = true) (Old0 : OldL Z n0 h0) :
    MetFree l (⟨"com/example/alcance/alcance/Identifiers", "isQuoted", "(Ljava/lang/String;)Z"⟩ : MethodName) (head1 (Jvm.Cond.code (⟨"com/example/alcance/alcance/Identifiers", "isQuoted", "(Ljava/lang/String;)Z"⟩ : MethodName) prog_3_method_4_code 1 (some .boolean) :: ws) ({ frames := 4, cells := 4, slots := 16, locals := 59 } : Room)) (fun a U => a = #[(.ref aa)] ∧ Z.Warmed39 U.vm ∧ U.heap = h0 ∧ IB Z U.vm ([] : List String)) (fun _ _ _ _ _ => True) (fun _ U o U' => ∃ v L, o = .returned v ∧ Q_rm_iq_L Z G1 aa bb kb nn vs dd c0 h0 n0 v U'.heap U'.vm L ∧ ReturnedEndW U o U' L ({ frames := 4, cells := 4, slots := 16, locals := 59 } : Room).cells ({ frames := 4, cells := 4, slots := 16, locals := 59 } : Room).slots) := by
  refine MetFree.of_bodySF (plainFor_of_name pn_com_example_alcance_alcance_Identifiers) hisR ?_
  intro p e s m args below meth c s₁ Bd hml0 hP hK
  obtain ⟨rfl, hZ, hh, hI⟩ := hP
  have hx := Bd.exec
  have hby := Bd.bytes
  have hml : c.maxLocals = 1 := hml0
  have hown : s.vm.findClass "com/example/alcance/alcance/Identifiers" = some m.cls := findClass_of_methodNamed Bd.named
  have hnm := (name_of_methodNamed Bd.named Bd.method).1
  have X0 : Stand p l e ({ frames := 4, cells := 4, slots := 16, locals := 59 } : Room) (s.setVm s.vm) m #[(.ref aa)] below meth c s₁ [] 0 0 := Stand.of_body Bd
  have e0 : s₁.heap = h0 := by rw [← hh, Bd.state]; rfl
  have N0 := Fr.nil n0
  have K00 : Keep h0 h0 [] := Keep.refl _ _
  have hlk0 : meth.locks = false := by first | assumption | exact BodyLoose.notSynchronized (by assumption) | exact Body.notSynchronized (by assumption)
  have hS0 : s.Since s.vm s.heap.size := (State.WarmedH.refl s).since _
  have hk0 : s.heap.size ≤ h0.size := by rw [hh]; exact Nat.le_refl _
  have hkeep : ∀ (b : Addr) (cl : Cell), Z.heap[b]? = some cl → s.heap[b]? = some cl := by rw [hh]; exact Old0.2.2
  show Rch p e below s₁ (entryFrame m #[(.ref aa)] 1) (FinW s (Q_rm_iq_L Z G1 aa bb kb nn vs dd c0 h0 n0) 4 16)
  refine Rch.cast (ef_rm_iq_L m G1 aa bb kb nn vs dd c0) ?_
  have Z0f := Nat.le_refl h0.size
  have N0f := Fr.nil h0.size
  have OldF := Old0.up Z0
  show Rch p e below s₁ (mkF m 0 #[.val (.ref aa)] []) _
  refine w_aloadN (pc' := 1) X0 hx hby dprog3m4_0 rfl rfl rfl ?_
  obtain ⟨a958, T958, h958, k958, b958, kc958, X958, e958, E958, hS958, hk958, hZ958, hown958, Ex958, Fc958, Fv958, Va958, lt958, lu958, I958, Li958, st958⟩ := ldcSVL (s := s) (vm0 := s.vm) X0 hx hZ hown (hw _ (List.mem_of_getElem? (i := 27) rfl)) (fun d hd => hw d ((by decide +kernel : ∀ d ∈ Bundle.stringAtoms, d ∈ tables_1) d hd)) e0 hS0 hk0 (Fr.nil _) hkeep hI (by decide) H54 hcw (vs := [(.int (34 : Int32))]) (z := (1 : Int32)) ⟨by decide, by decide⟩ (by decide) (by decide) (g := (mkF m 1 #[.val (.ref aa)] [(.ref aa)])) rfl (hb hby dprog3m4_1) (n := 4) (by decide) (by decide) (by decide) (by decide)
  have hk959 := Nat.le_trans hk0 E958.1
  have f960 : Exa Z h958 aa "java/lang/String" := f2.ext E958
  have f961 : Fld Z h958 aa "java/lang/String" "coder" "B" (.int (0 : Int32)) := f3.ext E958
  have f962 : Fld Z h958 aa "java/lang/String" "value" "[B" (.ref bb) := f4.ext E958
  have f963 : Arv Z h958 bb kb .byte nn vs dd := f5.ext E958
  have Old964 := OldF.ext E958
  have Z965 := Nat.le_trans Z0f E958.1
  have Kp966 : Keep h0 h958 [] := K00.ext E958
  refine Rch.st (fun _ k => st958 _ k) ?_
  show Rch p e below T958 (mkF m 3 #[.val (.ref aa)] [(.ref a958), (.ref aa)]) _
  obtain ⟨cq967, kq967, q967a, q967b, q967c⟩ := isOf hZ958 e958 f960
  obtain ⟨_, _, ⟨T967, L967, k967, n967⟩, -, X967, ⟨Lc967, hQ967, l967, y967, z967⟩, st967⟩ := X958.virtualBack hx (y := (⟨"java/lang/String", "startsWith", "(Ljava/lang/String;)Z"⟩ : MethodName)) (z := (⟨"java/lang/String", "startsWith", "(Ljava/lang/String;)Z"⟩ : MethodName)) hown958 (mvT hZ958 (hw _ (List.mem_of_getElem? (i := 28) rfl))) (mvT hZ958 (hw _ (List.mem_of_getElem? (i := 29) rfl))) (notFace_of_selects (args := #[]) (mvT hZ958 (hw _ (List.mem_of_getElem? (i := 31) rfl)))) (mvT hZ958 (hw _ (List.mem_of_getElem? (i := 31) rfl))) (mvT hZ958 (hw _ (List.mem_of_getElem? (i := 30) rfl))) (by decide) (backOf (W := 0) (rm_sw1_L l Z a0 hw [] G1 aa bb kb nn vs dd a958 b958 kc958 (34 : Int32) c0 h958 h0.size Z965 (O2) (P5) f960 f961 f962 f963 Ex958 Fc958 Fv958 Va958 (h1) (by decide) (hn) (hv) (hc0) (hc1) Old964) hZ958 (hw _ (List.mem_of_getElem? (i := 32) rfl)) (hw _ (List.mem_of_getElem? (i := 4) rfl)) (by decide) (by decide)) q967a q967c (g := (mkF m 3 #[.val (.ref aa)] [(.ref a958), (.ref aa)])) rfl (by rw [hml]; rfl) (Steps.refl _) (argsL := [(.ref a958)]) (rest := []) (lenOf pd__Ljava_lang_String__Z rfl) rfl (by show 2 * 0 + _ ≤ _; exact Nat.le_of_eq rfl) (hb hby dprog3m4_3) (fun _ _ => ⟨rfl, e958, (by decide : 2 + 0 ≤ _), (by decide : 8 + 0 ≤ _)⟩)
  dsimp only [Pt.U, Pt.locs, Pt.cells, Pt.slots] at X967 l967 y967 z967 st967 hQ967
  subst l967 y967 z967
  obtain ⟨rfl, NQ967, K967⟩ := hQ967
  have N968 := Fr.app N0f NQ967
  refine Rch.st (fun _ k => st967.trans k) ?_
  show Rch p e below T967 (mkF m 6 #[.val (.ref aa)] [(.int (own_sw c0 (34 : Int32)))]) _
  by_cases hq : c0 = 34
  · skip
    have r969 : (own_sw c0 (34 : Int32)) = (1 : Int32) := by simp [own_sw, hq]
    rw [r969]
    show Rch p e below T967 (mkF m 6 #[.val (.ref aa)] [(.int (1 : Int32))]) _
    refine w_ifYes (pc' := 18) X967 hx hby dprog3m4_6 (XT.i0_ne_t (by decide)) (by decide) ?_
    refine w_iconst (pc' := 19) (v := 1) X967 hx hby dprog3m4_18 rfl rfl ?_
    refine w_goto (pc' := 23) X967 hx hby dprog3m4_19 (by decide) ?_
    exact Rch.retVW X967 hx hS958 (by rw [K967]; exact hk958) Bd.returns rfl (Or.inl ⟨rfl, by simp, _, rfl⟩) (hb hby dprog3m4_23) (by rw [K967]; exact ⟨by simp [own_iq, hq], (own_Fr Z0 N968), Kp966, own_ib_mono (own_ib (s := s.setVm T958.vm) I958 X967.warmed) (by decide)⟩) (by decide) (by decide)
  · skip
    have r970 : (own_sw c0 (34 : Int32)) = (0 : Int32) := by simp [own_sw, hq]
    rw [r970]
    show Rch p e below T967 (mkF m 6 #[.val (.ref aa)] [(.int (0 : Int32))]) _
    refine w_ifNo (pc' := 9) X967 hx hby dprog3m4_6 (XT.i0_ne_f (by decide)) rfl ?_
    refine w_aloadN (pc' := 10) X967 hx hby dprog3m4_9 rfl rfl rfl ?_
    obtain ⟨a971, T971, h971, k971, b971, kc971, X971, e971, E971, hS971, hk971, hZ971, hown971, Ex971, Fc971, Fv971, Va971, lt971, lu971, I971, Li971, st971⟩ := ldcSVL (s := s) (vm0 := T958.vm) X967 hx hZ958 hown958 (hw _ (List.mem_of_getElem? (i := 49) rfl)) (fun d hd => hw d ((by decide +kernel : ∀ d ∈ Bundle.stringAtoms, d ∈ tables_1) d hd)) K967 hS958 hk958 (by rw [hh]; exact N968) hkeep I958 (by decide) H59 hcw (vs := [(.int (96 : Int32))]) (z := (1 : Int32)) ⟨by decide, by decide⟩ (by decide) (by decide) (g := (mkF m 10 #[.val (.ref aa)] [(.ref aa)])) rfl (hb hby dprog3m4_10) (n := 4) (by decide) (by decide) (by decide) (by decide)
    have hk972 := Nat.le_trans hk958 E971.1
    have f973 : Exa Z h971 aa "java/lang/String" := f960.ext E971
    have f974 : Fld Z h971 aa "java/lang/String" "coder" "B" (.int (0 : Int32)) := f961.ext E971
    have f975 : Fld Z h971 aa "java/lang/String" "value" "[B" (.ref bb) := f962.ext E971
    have f976 : Arv Z h971 bb kb .byte nn vs dd := f963.ext E971
    have f977 : Exa Z h971 a958 "java/lang/String" := Ex958.ext E971
    have f978 : Fld Z h971 a958 "java/lang/String" "coder" "B" (.int (0 : Int32)) := Fc958.ext E971
    have f979 : Fld Z h971 a958 "java/lang/String" "value" "[B" (.ref b958) := Fv958.ext E971
    have f980 : Arv Z h971 b958 kc958 .byte (1 : Int32) [(.int (34 : Int32))] (.int (0 : Int32)) := Va958.ext E971
    have Old981 := Old964.ext E971
    have Z982 := Nat.le_trans Z965 E971.1
    have Kp983 : Keep h0 h971 [] := Kp966.ext E971
    refine Rch.st (fun _ k => st971 _ k) ?_
    show Rch p e below T971 (mkF m 12 #[.val (.ref aa)] [(.ref a971), (.ref aa)]) _
    obtain ⟨cq984, kq984, q984a, q984b, q984c⟩ := isOf hZ971 e971 f973
    obtain ⟨_, _, ⟨T984, L984, k984, n984⟩, -, X984, ⟨Lc984, hQ984, l984, y984, z984⟩, st984⟩ := X971.virtualBack hx (y := (⟨"java/lang/String", "startsWith", "(Ljava/lang/String;)Z"⟩ : MethodName)) (z := (⟨"java/lang/String", "startsWith", "(Ljava/lang/String;)Z"⟩ : MethodName)) hown971 (mvT hZ971 (hw _ (List.mem_of_getElem? (i := 28) rfl))) (mvT hZ971 (hw _ (List.mem_of_getElem? (i := 29) rfl))) (notFace_of_selects (args := #[]) (mvT hZ971 (hw _ (List.mem_of_getElem? (i := 31) rfl)))) (mvT hZ971 (hw _ (List.mem_of_getElem? (i := 31) rfl))) (mvT hZ971 (hw _ (List.mem_of_getElem? (i := 30) rfl))) (by decide) (backOf (W := 0) (rm_sw1_L l Z a0 hw [] G1 aa bb kb nn vs dd a971 b971 kc971 (96 : Int32) c0 h971 h0.size Z982 (O2) (P5) f973 f974 f975 f976 Ex971 Fc971 Fv971 Va971 (h1) (by decide) (hn) (hv) (hc0) (hc1) Old981) hZ971 (hw _ (List.mem_of_getElem? (i := 32) rfl)) (hw _ (List.mem_of_getElem? (i := 4) rfl)) (by decide) (by decide)) q984a q984c (g := (mkF m 12 #[.val (.ref aa)] [(.ref a971), (.ref aa)])) rfl (by rw [hml]; rfl) (Steps.refl _) (argsL := [(.ref a971)]) (rest := []) (lenOf pd__Ljava_lang_String__Z rfl) rfl (by show 2 * 0 + _ ≤ _; exact Nat.le_of_eq rfl) (hb hby dprog3m4_12) (fun _ _ => ⟨rfl, e971, (by decide : 4 + 0 ≤ _), (by decide : 16 + 0 ≤ _)⟩)
    dsimp only [Pt.U, Pt.locs, Pt.cells, Pt.slots] at X984 l984 y984 z984 st984 hQ984
    subst l984 y984 z984
    obtain ⟨rfl, NQ984, K984⟩ := hQ984
    have N985 := Fr.app N968 NQ984
    refine Rch.st (fun _ k => st984.trans k) ?_
    show Rch p e below T984 (mkF m 15 #[.val (.ref aa)] [(.int (own_sw c0 (96 : Int32)))]) _
    by_cases hr : c0 = 96
    · skip
      have r986 : (own_sw c0 (96 : Int32)) = (1 : Int32) := by simp [own_sw, hr]
      rw [r986]
      show Rch p e below T984 (mkF m 15 #[.val (.ref aa)] [(.int (1 : Int32))]) _
      refine w_ifNo (pc' := 18) X984 hx hby dprog3m4_15 (XT.i0_eq_f (by decide)) rfl ?_
      refine w_iconst (pc' := 19) (v := 1) X984 hx hby dprog3m4_18 rfl rfl ?_
      refine w_goto (pc' := 23) X984 hx hby dprog3m4_19 (by decide) ?_
      exact Rch.retVW X984 hx hS971 (by rw [K984]; exact hk971) Bd.returns rfl (Or.inl ⟨rfl, by simp, _, rfl⟩) (hb hby dprog3m4_23) (by rw [K984]; exact ⟨by simp [own_iq, hq, hr], (own_Fr Z0 N985), Kp983, own_ib_mono (own_ib (s := s.setVm T971.vm) I971 X984.warmed) (by decide)⟩) (by decide) (by decide)
    · skip
      have r987 : (own_sw c0 (96 : Int32)) = (0 : Int32) := by simp [own_sw, hr]
      rw [r987]
      show Rch p e below T984 (mkF m 15 #[.val (.ref aa)] [(.int (0 : Int32))]) _
      refine w_ifYes (pc' := 22) X984 hx hby dprog3m4_15 (XT.i0_eq_t (by decide)) (by decide) ?_
      refine w_iconst (pc' := 23) (v := 0) X984 hx hby dprog3m4_22 rfl rfl ?_
      exact Rch.retVW X984 hx hS971 (by rw [K984]; exact hk971) Bd.returns rfl (Or.inl ⟨rfl, by simp, _, rfl⟩) (hb hby dprog3m4_23) (by rw [K984]; exact ⟨by simp [own_iq, hq, hr], (own_Fr Z0 N985), Kp983, own_ib_mono (own_ib (s := s.setVm T971.vm) I971 X984.warmed) (by decide)⟩) (by decide) (by decide)

theorem ef_rm_iq_U (m : MethodId) (G1 : Int32) (aa : Addr) (bb : Addr) (kb : ClassId) (nn : Int32) (vs : List Value) (dd : Value) (c0 : Int32)  : entryFrame m #[(.ref aa)] 1 = mkF m 0 #[.val (.ref aa)] [] := by  first | (simp [entryFrame, mkF, argsToLocals, Value.category, maxLocals]; done) | rfl
def Q_rm_iq_U (Z : State) (G1 : Int32) (aa : Addr) (bb : Addr) (kb : ClassId) (nn : Int32) (vs : List Value) (dd : Value) (c0 : Int32) (h0 : Heap) (n0 : Nat) (v : Option Value) (h : Heap) (vm : Vm) (L : List Loc) : Prop := (v = some (.int (own_iq c0))) ∧ (Fr n0 L) ∧ (Keep h0 h []) ∧ (IB Z vm (["`", "\""] : List String))
set_option maxRecDepth 65536 in
set_option maxHeartbeats 40000000 in
theorem rm_iq_U (l : Launch) (Z : State) (a0 : Array Value) (hw : ∀ d ∈ tables_1, d.before a0 Z = true) (ws : List Jvm.Cond) (G1 : Int32) (aa : Addr) (bb : Addr) (kb : ClassId) (nn : Int32) (vs : List Value) (dd : Value) (c0 : Int32) (h0 : Heap) (n0 : Nat) (Z0 : n0 ≤ h0.size) (O2 : Sta Z Z.heap "java/lang/String" "COMPACT_STRINGS" "Z" (.int G1)) (P5 : ¬ G1 = 0) (SA : Sta Z Z.heap "java/lang/StringUTF16" "$assertionsDisabled" "Z" (.int 1)) (SH : Sta Z Z.heap "java/lang/StringUTF16" "HI_BYTE_SHIFT" "I" (.int 0)) (SL : Sta Z Z.heap "java/lang/StringUTF16" "LO_BYTE_SHIFT" "I" (.int 8)) (f5 : Exa Z h0 aa "java/lang/String") (f6 : Fld Z h0 aa "java/lang/String" "coder" "B" (.int (1 : Int32))) (f7 : Fld Z h0 aa "java/lang/String" "value" "[B" (.ref bb)) (f8 : Arv Z h0 bb kb .byte nn vs dd) (h1 : ¬ ((nn >>> ((1 : Int32) &&& 31)) - (1 : Int32)) < (0 : Int32)) (hn : (1 : Int32) < nn) (hn0 : (0 : Int32) < nn) (hv0 : vs.getD 0 dd = .int (own_lo c0)) (hv1 : vs.getD 1 dd = .int (own_hi c0)) (hc0 : ¬ c0 < 0) (hc1 : ¬ (65535 : Int32) < c0) (H54 : Jvm.Lit.constHeld Z "com/example/alcance/alcance/Identifiers" 54) (H59 : Jvm.Lit.constHeld Z "com/example/alcance/alcance/Identifiers" 59) (hcw : Jvm.Lit.compactW.before a0 Z = true) (Old0 : OldL Z n0 h0) :
    MetFree l (⟨"com/example/alcance/alcance/Identifiers", "isQuoted", "(Ljava/lang/String;)Z"⟩ : MethodName) (head1 (Jvm.Cond.code (⟨"com/example/alcance/alcance/Identifiers", "isQuoted", "(Ljava/lang/String;)Z"⟩ : MethodName) prog_3_method_4_code 1 (some .boolean) :: ws) ({ frames := 4, cells := 4, slots := 16, locals := 59 } : Room)) (fun a U => a = #[(.ref aa)] ∧ Z.Warmed39 U.vm ∧ U.heap = h0 ∧ IB Z U.vm ([] : List String)) (fun _ _ _ _ _ => True) (fun _ U o U' => ∃ v L, o = .returned v ∧ Q_rm_iq_U Z G1 aa bb kb nn vs dd c0 h0 n0 v U'.heap U'.vm L ∧ ReturnedEndW U o U' L ({ frames := 4, cells := 4, slots := 16, locals := 59 } : Room).cells ({ frames := 4, cells := 4, slots := 16, locals := 59 } : Room).slots) := by
  refine MetFree.of_bodySF (plainFor_of_name pn_com_example_alcance_alcance_Identifiers) hisR ?_
  intro p e s m args below meth c s₁ Bd hml0 hP hK
  obtain ⟨rfl, hZ, hh, hI⟩ := hP
  have hx := Bd.exec
  have hby := Bd.bytes
  have hml : c.maxLocals = 1 := hml0
  have hown : s.vm.findClass "com/example/alcance/alcance/Identifiers" = some m.cls := findClass_of_methodNamed Bd.named
  have hnm := (name_of_methodNamed Bd.named Bd.method).1
  have X0 : Stand p l e ({ frames := 4, cells := 4, slots := 16, locals := 59 } : Room) (s.setVm s.vm) m #[(.ref aa)] below meth c s₁ [] 0 0 := Stand.of_body Bd
  have e0 : s₁.heap = h0 := by rw [← hh, Bd.state]; rfl
  have N0 := Fr.nil n0
  have K00 : Keep h0 h0 [] := Keep.refl _ _
  have hlk0 : meth.locks = false := by first | assumption | exact BodyLoose.notSynchronized (by assumption) | exact Body.notSynchronized (by assumption)
  have hS0 : s.Since s.vm s.heap.size := (State.WarmedH.refl s).since _
  have hk0 : s.heap.size ≤ h0.size := by rw [hh]; exact Nat.le_refl _
  have hkeep : ∀ (b : Addr) (cl : Cell), Z.heap[b]? = some cl → s.heap[b]? = some cl := by rw [hh]; exact Old0.2.2
  show Rch p e below s₁ (entryFrame m #[(.ref aa)] 1) (FinW s (Q_rm_iq_U Z G1 aa bb kb nn vs dd c0 h0 n0) 4 16)
  refine Rch.cast (ef_rm_iq_U m G1 aa bb kb nn vs dd c0) ?_
  have Z0f := Nat.le_refl h0.size
  have N0f := Fr.nil h0.size
  have OldF := Old0.up Z0
  show Rch p e below s₁ (mkF m 0 #[.val (.ref aa)] []) _
  refine w_aloadN (pc' := 1) X0 hx hby dprog3m4_0 rfl rfl rfl ?_
  obtain ⟨a988, T988, h988, k988, b988, kc988, X988, e988, E988, hS988, hk988, hZ988, hown988, Ex988, Fc988, Fv988, Va988, lt988, lu988, I988, Li988, st988⟩ := ldcSVL (s := s) (vm0 := s.vm) X0 hx hZ hown (hw _ (List.mem_of_getElem? (i := 27) rfl)) (fun d hd => hw d ((by decide +kernel : ∀ d ∈ Bundle.stringAtoms, d ∈ tables_1) d hd)) e0 hS0 hk0 (Fr.nil _) hkeep hI (by decide) H54 hcw (vs := [(.int (34 : Int32))]) (z := (1 : Int32)) ⟨by decide, by decide⟩ (by decide) (by decide) (g := (mkF m 1 #[.val (.ref aa)] [(.ref aa)])) rfl (hb hby dprog3m4_1) (n := 4) (by decide) (by decide) (by decide) (by decide)
  have hk989 := Nat.le_trans hk0 E988.1
  have f990 : Exa Z h988 aa "java/lang/String" := f5.ext E988
  have f991 : Fld Z h988 aa "java/lang/String" "coder" "B" (.int (1 : Int32)) := f6.ext E988
  have f992 : Fld Z h988 aa "java/lang/String" "value" "[B" (.ref bb) := f7.ext E988
  have f993 : Arv Z h988 bb kb .byte nn vs dd := f8.ext E988
  have Old994 := OldF.ext E988
  have Z995 := Nat.le_trans Z0f E988.1
  have Kp996 : Keep h0 h988 [] := K00.ext E988
  refine Rch.st (fun _ k => st988 _ k) ?_
  show Rch p e below T988 (mkF m 3 #[.val (.ref aa)] [(.ref a988), (.ref aa)]) _
  obtain ⟨cq997, kq997, q997a, q997b, q997c⟩ := isOf hZ988 e988 f990
  obtain ⟨_, _, ⟨T997, L997, k997, n997⟩, -, X997, ⟨Lc997, hQ997, l997, y997, z997⟩, st997⟩ := X988.virtualBack hx (y := (⟨"java/lang/String", "startsWith", "(Ljava/lang/String;)Z"⟩ : MethodName)) (z := (⟨"java/lang/String", "startsWith", "(Ljava/lang/String;)Z"⟩ : MethodName)) hown988 (mvT hZ988 (hw _ (List.mem_of_getElem? (i := 28) rfl))) (mvT hZ988 (hw _ (List.mem_of_getElem? (i := 29) rfl))) (notFace_of_selects (args := #[]) (mvT hZ988 (hw _ (List.mem_of_getElem? (i := 31) rfl)))) (mvT hZ988 (hw _ (List.mem_of_getElem? (i := 31) rfl))) (mvT hZ988 (hw _ (List.mem_of_getElem? (i := 30) rfl))) (by decide) (backOf (W := 0) (rm_sw1_U l Z a0 hw [] G1 aa bb kb nn vs dd a988 b988 kc988 (34 : Int32) c0 h988 h0.size Z995 (O2) (P5) (SA) (SH) (SL) f990 f991 f992 f993 Ex988 Fc988 Fv988 Va988 (h1) (by decide) (hn) (hn0) (hv0) (hv1) (hc0) (hc1) Old994) hZ988 (hw _ (List.mem_of_getElem? (i := 32) rfl)) (hw _ (List.mem_of_getElem? (i := 4) rfl)) (by decide) (by decide)) q997a q997c (g := (mkF m 3 #[.val (.ref aa)] [(.ref a988), (.ref aa)])) rfl (by rw [hml]; rfl) (Steps.refl _) (argsL := [(.ref a988)]) (rest := []) (lenOf pd__Ljava_lang_String__Z rfl) rfl (by show 2 * 0 + _ ≤ _; exact Nat.le_of_eq rfl) (hb hby dprog3m4_3) (fun _ _ => ⟨rfl, e988, (by decide : 2 + 0 ≤ _), (by decide : 8 + 0 ≤ _)⟩)
  dsimp only [Pt.U, Pt.locs, Pt.cells, Pt.slots] at X997 l997 y997 z997 st997 hQ997
  subst l997 y997 z997
  obtain ⟨rfl, NQ997, K997⟩ := hQ997
  have N998 := Fr.app N0f NQ997
  refine Rch.st (fun _ k => st997.trans k) ?_
  show Rch p e below T997 (mkF m 6 #[.val (.ref aa)] [(.int (own_sw c0 (34 : Int32)))]) _
  by_cases hq : c0 = 34
  · skip
    have r999 : (own_sw c0 (34 : Int32)) = (1 : Int32) := by simp [own_sw, hq]
    rw [r999]
    show Rch p e below T997 (mkF m 6 #[.val (.ref aa)] [(.int (1 : Int32))]) _
    refine w_ifYes (pc' := 18) X997 hx hby dprog3m4_6 (XT.i0_ne_t (by decide)) (by decide) ?_
    refine w_iconst (pc' := 19) (v := 1) X997 hx hby dprog3m4_18 rfl rfl ?_
    refine w_goto (pc' := 23) X997 hx hby dprog3m4_19 (by decide) ?_
    exact Rch.retVW X997 hx hS988 (by rw [K997]; exact hk988) Bd.returns rfl (Or.inl ⟨rfl, by simp, _, rfl⟩) (hb hby dprog3m4_23) (by rw [K997]; exact ⟨by simp [own_iq, hq], (own_Fr Z0 N998), Kp996, own_ib_mono (own_ib (s := s.setVm T988.vm) I988 X997.warmed) (by decide)⟩) (by decide) (by decide)
  · skip
    have r1000 : (own_sw c0 (34 : Int32)) = (0 : Int32) := by simp [own_sw, hq]
    rw [r1000]
    show Rch p e below T997 (mkF m 6 #[.val (.ref aa)] [(.int (0 : Int32))]) _
    refine w_ifNo (pc' := 9) X997 hx hby dprog3m4_6 (XT.i0_ne_f (by decide)) rfl ?_
    refine w_aloadN (pc' := 10) X997 hx hby dprog3m4_9 rfl rfl rfl ?_
    obtain ⟨a1001, T1001, h1001, k1001, b1001, kc1001, X1001, e1001, E1001, hS1001, hk1001, hZ1001, hown1001, Ex1001, Fc1001, Fv1001, Va1001, lt1001, lu1001, I1001, Li1001, st1001⟩ := ldcSVL (s := s) (vm0 := T988.vm) X997 hx hZ988 hown988 (hw _ (List.mem_of_getElem? (i := 49) rfl)) (fun d hd => hw d ((by decide +kernel : ∀ d ∈ Bundle.stringAtoms, d ∈ tables_1) d hd)) K997 hS988 hk988 (by rw [hh]; exact N998) hkeep I988 (by decide) H59 hcw (vs := [(.int (96 : Int32))]) (z := (1 : Int32)) ⟨by decide, by decide⟩ (by decide) (by decide) (g := (mkF m 10 #[.val (.ref aa)] [(.ref aa)])) rfl (hb hby dprog3m4_10) (n := 4) (by decide) (by decide) (by decide) (by decide)
    have hk1002 := Nat.le_trans hk988 E1001.1
    have f1003 : Exa Z h1001 aa "java/lang/String" := f990.ext E1001
    have f1004 : Fld Z h1001 aa "java/lang/String" "coder" "B" (.int (1 : Int32)) := f991.ext E1001
    have f1005 : Fld Z h1001 aa "java/lang/String" "value" "[B" (.ref bb) := f992.ext E1001
    have f1006 : Arv Z h1001 bb kb .byte nn vs dd := f993.ext E1001
    have f1007 : Exa Z h1001 a988 "java/lang/String" := Ex988.ext E1001
    have f1008 : Fld Z h1001 a988 "java/lang/String" "coder" "B" (.int (0 : Int32)) := Fc988.ext E1001
    have f1009 : Fld Z h1001 a988 "java/lang/String" "value" "[B" (.ref b988) := Fv988.ext E1001
    have f1010 : Arv Z h1001 b988 kc988 .byte (1 : Int32) [(.int (34 : Int32))] (.int (0 : Int32)) := Va988.ext E1001
    have Old1011 := Old994.ext E1001
    have Z1012 := Nat.le_trans Z995 E1001.1
    have Kp1013 : Keep h0 h1001 [] := Kp996.ext E1001
    refine Rch.st (fun _ k => st1001 _ k) ?_
    show Rch p e below T1001 (mkF m 12 #[.val (.ref aa)] [(.ref a1001), (.ref aa)]) _
    obtain ⟨cq1014, kq1014, q1014a, q1014b, q1014c⟩ := isOf hZ1001 e1001 f1003
    obtain ⟨_, _, ⟨T1014, L1014, k1014, n1014⟩, -, X1014, ⟨Lc1014, hQ1014, l1014, y1014, z1014⟩, st1014⟩ := X1001.virtualBack hx (y := (⟨"java/lang/String", "startsWith", "(Ljava/lang/String;)Z"⟩ : MethodName)) (z := (⟨"java/lang/String", "startsWith", "(Ljava/lang/String;)Z"⟩ : MethodName)) hown1001 (mvT hZ1001 (hw _ (List.mem_of_getElem? (i := 28) rfl))) (mvT hZ1001 (hw _ (List.mem_of_getElem? (i := 29) rfl))) (notFace_of_selects (args := #[]) (mvT hZ1001 (hw _ (List.mem_of_getElem? (i := 31) rfl)))) (mvT hZ1001 (hw _ (List.mem_of_getElem? (i := 31) rfl))) (mvT hZ1001 (hw _ (List.mem_of_getElem? (i := 30) rfl))) (by decide) (backOf (W := 0) (rm_sw1_U l Z a0 hw [] G1 aa bb kb nn vs dd a1001 b1001 kc1001 (96 : Int32) c0 h1001 h0.size Z1012 (O2) (P5) (SA) (SH) (SL) f1003 f1004 f1005 f1006 Ex1001 Fc1001 Fv1001 Va1001 (h1) (by decide) (hn) (hn0) (hv0) (hv1) (hc0) (hc1) Old1011) hZ1001 (hw _ (List.mem_of_getElem? (i := 32) rfl)) (hw _ (List.mem_of_getElem? (i := 4) rfl)) (by decide) (by decide)) q1014a q1014c (g := (mkF m 12 #[.val (.ref aa)] [(.ref a1001), (.ref aa)])) rfl (by rw [hml]; rfl) (Steps.refl _) (argsL := [(.ref a1001)]) (rest := []) (lenOf pd__Ljava_lang_String__Z rfl) rfl (by show 2 * 0 + _ ≤ _; exact Nat.le_of_eq rfl) (hb hby dprog3m4_12) (fun _ _ => ⟨rfl, e1001, (by decide : 4 + 0 ≤ _), (by decide : 16 + 0 ≤ _)⟩)
    dsimp only [Pt.U, Pt.locs, Pt.cells, Pt.slots] at X1014 l1014 y1014 z1014 st1014 hQ1014
    subst l1014 y1014 z1014
    obtain ⟨rfl, NQ1014, K1014⟩ := hQ1014
    have N1015 := Fr.app N998 NQ1014
    refine Rch.st (fun _ k => st1014.trans k) ?_
    show Rch p e below T1014 (mkF m 15 #[.val (.ref aa)] [(.int (own_sw c0 (96 : Int32)))]) _
    by_cases hr : c0 = 96
    · skip
      have r1016 : (own_sw c0 (96 : Int32)) = (1 : Int32) := by simp [own_sw, hr]
      rw [r1016]
      show Rch p e below T1014 (mkF m 15 #[.val (.ref aa)] [(.int (1 : Int32))]) _
      refine w_ifNo (pc' := 18) X1014 hx hby dprog3m4_15 (XT.i0_eq_f (by decide)) rfl ?_
      refine w_iconst (pc' := 19) (v := 1) X1014 hx hby dprog3m4_18 rfl rfl ?_
      refine w_goto (pc' := 23) X1014 hx hby dprog3m4_19 (by decide) ?_
      exact Rch.retVW X1014 hx hS1001 (by rw [K1014]; exact hk1001) Bd.returns rfl (Or.inl ⟨rfl, by simp, _, rfl⟩) (hb hby dprog3m4_23) (by rw [K1014]; exact ⟨by simp [own_iq, hq, hr], (own_Fr Z0 N1015), Kp1013, own_ib_mono (own_ib (s := s.setVm T1001.vm) I1001 X1014.warmed) (by decide)⟩) (by decide) (by decide)
    · skip
      have r1017 : (own_sw c0 (96 : Int32)) = (0 : Int32) := by simp [own_sw, hr]
      rw [r1017]
      show Rch p e below T1014 (mkF m 15 #[.val (.ref aa)] [(.int (0 : Int32))]) _
      refine w_ifYes (pc' := 22) X1014 hx hby dprog3m4_15 (XT.i0_eq_t (by decide)) (by decide) ?_
      refine w_iconst (pc' := 23) (v := 0) X1014 hx hby dprog3m4_22 rfl rfl ?_
      exact Rch.retVW X1014 hx hS1001 (by rw [K1014]; exact hk1001) Bd.returns rfl (Or.inl ⟨rfl, by simp, _, rfl⟩) (hb hby dprog3m4_23) (by rw [K1014]; exact ⟨by simp [own_iq, hq, hr], (own_Fr Z0 N1015), Kp1013, own_ib_mono (own_ib (s := s.setVm T1001.vm) I1001 X1014.warmed) (by decide)⟩) (by decide) (by decide)

theorem pn_com_example_alcance_alcance_IdentifiersIsQuotedPinLaw : plainName "com/example/alcance/alcance/IdentifiersIsQuotedPinLaw" = true := by first | (simp [plainName, overriddenIn]; done) | decide +kernel
theorem ef_rm_law (m : MethodId) (G1 : Int32) (ln : Int32) (xa : Int32) (xb : Int32) (xc : Int32)  : entryFrame m #[(.int ln), (.int xa), (.int xb), (.int xc)] maxLocals = mkF m 0 #[.val (.int ln), .val (.int xa), .val (.int xb), .val (.int xc), .unset, .unset, .unset, .unset, .unset, .unset, .unset] [] := by  first | (simp [entryFrame, mkF, argsToLocals, Value.category, maxLocals]; done) | rfl
def Q_rm_law (Z : State) (G1 : Int32) (ln : Int32) (xa : Int32) (xb : Int32) (xc : Int32) (h0 : Heap) (n0 : Nat) (v : Option Value) (h : Heap) (vm : Vm) (L : List Loc) : Prop := (v = some (.int (1 : Int32))) ∧ (Fr n0 L) ∧ (Keep h0 h []) ∧ (IB Z vm (["`", "\"", ""] : List String))
theorem pd___C_V : parseMethodDescriptor "([C)V" = some ⟨[(.array .char)], none⟩ := by decide +kernel
set_option maxRecDepth 65536 in
set_option maxHeartbeats 40000000 in
theorem rm_law (l : Launch) (Z : State) (a0 : Array Value) (hw : ∀ d ∈ tables_1, d.before a0 Z = true) (ws : List Jvm.Cond) (G1 : Int32) (ln : Int32) (xa : Int32) (xb : Int32) (xc : Int32) (h0 : Heap) (n0 : Nat) (Z0 : n0 ≤ h0.size) (O2 : Sta Z Z.heap "java/lang/String" "COMPACT_STRINGS" "Z" (.int G1)) (P5 : ¬ G1 = 0) (SA : Sta Z Z.heap "java/lang/StringUTF16" "$assertionsDisabled" "Z" (.int 1)) (SH : Sta Z Z.heap "java/lang/StringUTF16" "HI_BYTE_SHIFT" "I" (.int 0)) (SL : Sta Z Z.heap "java/lang/StringUTF16" "LO_BYTE_SHIFT" "I" (.int 8)) (H7 : Jvm.Lit.constHeld Z "java/lang/String" 7) (H54 : Jvm.Lit.constHeld Z "com/example/alcance/alcance/Identifiers" 54) (H59 : Jvm.Lit.constHeld Z "com/example/alcance/alcance/Identifiers" 59) (hcw : Jvm.Lit.compactW.before a0 Z = true) (Old0 : OldL Z n0 h0) :
    MetFree l x (head1 (Jvm.Cond.code x code maxLocals ret :: ws) room_1) (fun a U => a = #[(.int ln), (.int xa), (.int xb), (.int xc)] ∧ Z.Warmed39 U.vm ∧ U.heap = h0 ∧ IB Z U.vm ([] : List String)) (fun _ _ _ _ _ => True) (fun _ U o U' => ∃ v L, o = .returned v ∧ Q_rm_law Z G1 ln xa xb xc h0 n0 v U'.heap U'.vm L ∧ ReturnedEndW U o U' L 24 3200) := by
  refine MetFree.of_bodySF (plainFor_of_name pn_com_example_alcance_alcance_IdentifiersIsQuotedPinLaw) hisR ?_
  intro p e s m args below meth c s₁ Bd hml0 hP hK
  obtain ⟨rfl, hZ, hh, hI⟩ := hP
  have hx := Bd.exec
  have hby := Bd.bytes
  have hml : c.maxLocals = 11 := hml0
  have hown : s.vm.findClass "com/example/alcance/alcance/IdentifiersIsQuotedPinLaw" = some m.cls := findClass_of_methodNamed Bd.named
  have hnm := (name_of_methodNamed Bd.named Bd.method).1
  have X0 : Stand p l e room_1 (s.setVm s.vm) m #[(.int ln), (.int xa), (.int xb), (.int xc)] below meth c s₁ [] 0 0 := Stand.of_body Bd
  have e0 : s₁.heap = h0 := by rw [← hh, Bd.state]; rfl
  have N0 := Fr.nil n0
  have K00 : Keep h0 h0 [] := Keep.refl _ _
  have hlk0 : meth.locks = false := by first | assumption | exact BodyLoose.notSynchronized (by assumption) | exact Body.notSynchronized (by assumption)
  have hS0 : s.Since s.vm s.heap.size := (State.WarmedH.refl s).since _
  have hk0 : s.heap.size ≤ h0.size := by rw [hh]; exact Nat.le_refl _
  have hkeep : ∀ (b : Addr) (cl : Cell), Z.heap[b]? = some cl → s.heap[b]? = some cl := by rw [hh]; exact Old0.2.2
  show Rch p e below s₁ (entryFrame m #[(.int ln), (.int xa), (.int xb), (.int xc)] maxLocals) (FinW s (Q_rm_law Z G1 ln xa xb xc h0 n0) 24 3200)
  refine Rch.cast (ef_rm_law m G1 ln xa xb xc) ?_
  have Z0f := Nat.le_refl h0.size
  have N0f := Fr.nil h0.size
  have OldF := Old0.up Z0
  show Rch p e below s₁ (mkF m 0 #[.val (.int ln), .val (.int xa), .val (.int xb), .val (.int xc), .unset, .unset, .unset, .unset, .unset, .unset, .unset] []) _
  refine w_iloadN (pc' := 1) X0 hx hby at_0 rfl rfl ?_
  refine w_iconst (pc' := 2) (v := 3) X0 hx hby at_1 rfl rfl ?_
  refine w_iand (pc' := 3) X0 hx hby at_2 rfl ?_
  obtain ⟨nn, hnn⟩ : ∃ z, z = (ln &&& (3 : Int32)) := ⟨_, rfl⟩
  rw [← hnn]
  show Rch p e below s₁ (mkF m 3 #[.val (.int ln), .val (.int xa), .val (.int xb), .val (.int xc), .unset, .unset, .unset, .unset, .unset, .unset, .unset] [(.int nn)]) _
  refine w_istore (pc' := 5) (l' := #[.val (.int ln), .val (.int xa), .val (.int xb), .val (.int xc), .val (.int nn), .unset, .unset, .unset, .unset, .unset, .unset]) X0 hx hby at_3 rfl rfl ?_
  refine w_iloadN (pc' := 6) X0 hx hby at_5 rfl rfl ?_
  refine Rch.st (fun _ k => Stand.ldcI X0 hx hown (mv hZ (hw _ (List.mem_of_getElem? (i := 0) rfl))) rfl (hb hby at_6) k) ?_
  show Rch p e below s₁ (mkF m 8 #[.val (.int ln), .val (.int xa), .val (.int xb), .val (.int xc), .val (.int nn), .unset, .unset, .unset, .unset, .unset, .unset] [(.int (65535 : Int32)), (.int xa)]) _
  refine w_iand (pc' := 9) X0 hx hby at_8 rfl ?_
  refine w_i2c (pc' := 10) X0 hx hby at_9 rfl ?_
  have hcq0 := own_char (xa &&& (65535 : Int32))
  obtain ⟨cv0, hcv0⟩ : ∃ z, z = (nar .char (xa &&& (65535 : Int32))) := ⟨_, rfl⟩
  rw [← hcv0]
  show Rch p e below s₁ (mkF m 10 #[.val (.int ln), .val (.int xa), .val (.int xb), .val (.int xc), .val (.int nn), .unset, .unset, .unset, .unset, .unset, .unset] [(.int cv0)]) _
  rw [← hcv0] at hcq0
  obtain ⟨hn0, hm0, hr0⟩ := hcq0
  refine w_istore (pc' := 12) (l' := #[.val (.int ln), .val (.int xa), .val (.int xb), .val (.int xc), .val (.int nn), .val (.int cv0), .unset, .unset, .unset, .unset, .unset]) X0 hx hby at_10 rfl rfl ?_
  refine w_iloadN (pc' := 13) X0 hx hby at_12 rfl rfl ?_
  refine Rch.st (fun _ k => Stand.ldcI X0 hx hown (mv hZ (hw _ (List.mem_of_getElem? (i := 0) rfl))) rfl (hb hby at_13) k) ?_
  show Rch p e below s₁ (mkF m 15 #[.val (.int ln), .val (.int xa), .val (.int xb), .val (.int xc), .val (.int nn), .val (.int cv0), .unset, .unset, .unset, .unset, .unset] [(.int (65535 : Int32)), (.int xb)]) _
  refine w_iand (pc' := 16) X0 hx hby at_15 rfl ?_
  refine w_i2c (pc' := 17) X0 hx hby at_16 rfl ?_
  have hcq1 := own_char (xb &&& (65535 : Int32))
  obtain ⟨cv1, hcv1⟩ : ∃ z, z = (nar .char (xb &&& (65535 : Int32))) := ⟨_, rfl⟩
  rw [← hcv1]
  show Rch p e below s₁ (mkF m 17 #[.val (.int ln), .val (.int xa), .val (.int xb), .val (.int xc), .val (.int nn), .val (.int cv0), .unset, .unset, .unset, .unset, .unset] [(.int cv1)]) _
  rw [← hcv1] at hcq1
  obtain ⟨hn1, hm1, hr1⟩ := hcq1
  refine w_istore (pc' := 19) (l' := #[.val (.int ln), .val (.int xa), .val (.int xb), .val (.int xc), .val (.int nn), .val (.int cv0), .val (.int cv1), .unset, .unset, .unset, .unset]) X0 hx hby at_17 rfl rfl ?_
  refine w_iloadN (pc' := 20) X0 hx hby at_19 rfl rfl ?_
  refine Rch.st (fun _ k => Stand.ldcI X0 hx hown (mv hZ (hw _ (List.mem_of_getElem? (i := 0) rfl))) rfl (hb hby at_20) k) ?_
  show Rch p e below s₁ (mkF m 22 #[.val (.int ln), .val (.int xa), .val (.int xb), .val (.int xc), .val (.int nn), .val (.int cv0), .val (.int cv1), .unset, .unset, .unset, .unset] [(.int (65535 : Int32)), (.int xc)]) _
  refine w_iand (pc' := 23) X0 hx hby at_22 rfl ?_
  refine w_i2c (pc' := 24) X0 hx hby at_23 rfl ?_
  have hcq2 := own_char (xc &&& (65535 : Int32))
  obtain ⟨cv2, hcv2⟩ : ∃ z, z = (nar .char (xc &&& (65535 : Int32))) := ⟨_, rfl⟩
  rw [← hcv2]
  show Rch p e below s₁ (mkF m 24 #[.val (.int ln), .val (.int xa), .val (.int xb), .val (.int xc), .val (.int nn), .val (.int cv0), .val (.int cv1), .unset, .unset, .unset, .unset] [(.int cv2)]) _
  rw [← hcv2] at hcq2
  obtain ⟨hn2, hm2, hr2⟩ := hcq2
  refine w_istore (pc' := 26) (l' := #[.val (.int ln), .val (.int xa), .val (.int xb), .val (.int xc), .val (.int nn), .val (.int cv0), .val (.int cv1), .val (.int cv2), .unset, .unset, .unset]) X0 hx hby at_24 rfl rfl ?_
  refine w_iload (pc' := 28) X0 hx hby at_26 rfl rfl ?_
  rcases (hnn ▸ own_and3 ln : nn = 0 ∨ nn = 1 ∨ nn = 2 ∨ nn = 3) with rfl | rfl | rfl | rfl
  · skip
    show Rch p e below s₁ (mkF m 28 #[.val (.int ln), .val (.int xa), .val (.int xb), .val (.int xc), .val (.int (0 : Int32)), .val (.int cv0), .val (.int cv1), .val (.int cv2), .unset, .unset, .unset] [(.int (0 : Int32))]) _
    obtain ⟨T1018, h1018, kc1018, X1018, e1018, E1018, A1018, st1018⟩ := newP X0 hx hZ (hw _ (List.mem_of_getElem? (i := 1) rfl)) e0 (g := (mkF m 28 #[.val (.int ln), .val (.int xa), .val (.int xb), .val (.int xc), .val (.int (0 : Int32)), .val (.int cv0), .val (.int cv1), .val (.int cv2), .unset, .unset, .unset] [(.int (0 : Int32))])) rfl (hb hby at_28) rfl (by decide : ¬ ((0 : Int32) < (0 : Int32))) (cap := 0) (by decide : (0 : Int32).toNatClampNeg ≤ 0) (by decide) (by decide) (by decide)
    obtain ⟨a1018, g1018⟩ : ∃ z, z = h0.size := ⟨_, rfl⟩
    rw [← g1018] at A1018 st1018
    have ge1019 : h0.size ≤ a1018 := Nat.le_trans Z0f (Nat.le_of_eq g1018.symm)
    have hk1021 := Nat.le_trans hk0 E1018.1
    have Old1022 := OldF.ext E1018
    have Z1023 := Nat.le_trans Z0f E1018.1
    have Kp1024 : Keep h0 h1018 [] := K00.ext E1018
    have f1025 : Arv Z h1018 a1018 kc1018 .char (0 : Int32) [] (.int (0 : Int32)) := (Arv.new A1018 (by decide : ¬ ((0 : Int32) < (0 : Int32)))).pad (pad_rep [] (.int (0 : Int32)) 0)
    refine Rch.st (fun _ k => st1018 _ k) ?_
    show Rch p e below T1018 (mkF m 30 #[.val (.int ln), .val (.int xa), .val (.int xb), .val (.int xc), .val (.int (0 : Int32)), .val (.int cv0), .val (.int cv1), .val (.int cv2), .unset, .unset, .unset] [(.ref a1018)]) _
    refine w_astore (pc' := 32) (l' := #[.val (.int ln), .val (.int xa), .val (.int xb), .val (.int xc), .val (.int (0 : Int32)), .val (.int cv0), .val (.int cv1), .val (.int cv2), .val (.ref a1018), .unset, .unset]) X1018 hx hby at_30 rfl rfl rfl ?_
    refine w_iload (pc' := 34) X1018 hx hby at_32 rfl rfl ?_
    refine w_ifYes (pc' := 43) X1018 hx hby at_34 (XT.i0_le_t (by decide)) (by decide) ?_
    refine w_iload (pc' := 45) X1018 hx hby at_43 rfl rfl ?_
    refine w_iconst (pc' := 46) (v := 1) X1018 hx hby at_45 rfl rfl ?_
    refine w_icmpYes (pc' := 55) X1018 hx hby at_46 (XT.ii_le_t (by decide)) (by decide) ?_
    refine w_iload (pc' := 57) X1018 hx hby at_55 rfl rfl ?_
    refine w_iconst (pc' := 58) (v := 2) X1018 hx hby at_57 rfl rfl ?_
    refine w_icmpYes (pc' := 67) X1018 hx hby at_58 (XT.ii_le_t (by decide)) (by decide) ?_
    obtain ⟨T1026, h1026, X1026, e1026, E1026, A1026, D1026, -, st1026⟩ := newO X1018 hx hZ hown (hw _ (List.mem_of_getElem? (i := 2) rfl)) (hw _ (List.mem_of_getElem? (i := 3) rfl)) (hw _ (List.mem_of_getElem? (i := 4) rfl)) e1018 (g := (mkF m 67 #[.val (.int ln), .val (.int xa), .val (.int xb), .val (.int xc), .val (.int (0 : Int32)), .val (.int cv0), .val (.int cv1), .val (.int cv2), .val (.ref a1018), .unset, .unset] [])) rfl (hb hby at_67) (by decide) (by decide)
    obtain ⟨a1026, g1026⟩ : ∃ z, z = h1018.size := ⟨_, rfl⟩
    rw [← g1026] at A1026 D1026 st1026
    have ne1027 : a1018 ≠ a1026 := by rw [g1026]; exact Nat.ne_of_lt f1025.lt
    have ge1028 : h0.size ≤ a1026 := Nat.le_trans Z1023 (Nat.le_of_eq g1026.symm)
    have hk1030 := Nat.le_trans hk1021 E1026.1
    have f1031 : Arv Z h1026 a1018 kc1018 .char (0 : Int32) [] (.int (0 : Int32)) := f1025.ext E1026
    have Old1032 := Old1022.ext E1026
    have Z1033 := Nat.le_trans Z1023 E1026.1
    have Kp1034 : Keep h0 h1026 [] := Kp1024.ext E1026
    have f1035 : Fld Z h1026 a1026 "java/lang/String" "coder" "B" (.int (0 : Int32)) := D1026 (Or.inr (hw _ (List.mem_of_getElem? (i := 18) rfl))) (ty := .byte) (by decide)
    have f1036 : Fld Z h1026 a1026 "java/lang/String" "value" "[B" .null := D1026 (Or.inr (hw _ (List.mem_of_getElem? (i := 17) rfl))) (ty := (.array .byte)) (by decide)
    refine Rch.st (fun _ k => st1026 _ k) ?_
    show Rch p e below T1026 (mkF m 70 #[.val (.int ln), .val (.int xa), .val (.int xb), .val (.int xc), .val (.int (0 : Int32)), .val (.int cv0), .val (.int cv1), .val (.int cv2), .val (.ref a1018), .unset, .unset] [(.ref a1026)]) _
    refine w_dup (pc' := 71) X1026 hx hby at_70 rfl rfl ?_
    refine w_aload (pc' := 73) X1026 hx hby at_71 rfl rfl rfl ?_
    obtain ⟨_, _, ⟨T1037, L1037, k1037, n1037⟩, -, X1037, hSx1037, hgx1037, ⟨Lc1037, hQ1037, l1037, y1037, z1037⟩, st1037⟩ := X1026.specialBackS hx (y := (⟨"java/lang/String", "<init>", "([C)V"⟩ : MethodName)) rfl hown (mvT hZ (hw _ (List.mem_of_getElem? (i := 5) rfl))) (mvT hZ (hw _ (List.mem_of_getElem? (i := 6) rfl))) (mvT hZ (hw _ (List.mem_of_getElem? (i := 7) rfl))) (by decide) (backOfI (Ts := ([] : List String)) (W := 1) (rm_init1_0 l Z a0 hw [] a1026 a1018 kc1018 h1026 h0.size Z1033 (H7) (hcw) A1026 f1035 f1036 f1031 (ge1028) ((Ne.symm ne1027)) Old1032) hZ hI (hw _ (List.mem_of_getElem? (i := 7) rfl)) (hw _ (List.mem_of_getElem? (i := 4) rfl)) (by decide) (by decide)) (g := (mkF m 73 #[.val (.int ln), .val (.int xa), .val (.int xb), .val (.int xc), .val (.int (0 : Int32)), .val (.int cv0), .val (.int cv1), .val (.int cv2), .val (.ref a1018), .unset, .unset] [(.ref a1018), (.ref a1026), (.ref a1026)])) rfl (by rw [hml]; rfl) (Steps.refl _) (a := a1026) (argsL := [(.ref a1018)]) (rest := [(.ref a1026)]) (lenOf pd___C_V rfl) rfl (by show 2 * 0 + _ ≤ _; exact Nat.le_of_eq rfl) (hb hby at_73) (fun _ _ => ⟨rfl, e1026, (by decide : 2 + 2 ≤ _), (by decide : 4 + 4 ≤ _)⟩)
    dsimp only [Pt.U, Pt.locs, Pt.cells, Pt.slots] at X1037 l1037 y1037 z1037 st1037 hQ1037 hSx1037 hgx1037
    subst l1037 y1037 z1037
    have hS1037 := foldS hS0 (by rw [e1026]; exact hk1030) hSx1037 hgx1037
    have hk1037 : T1037.heap.size ≤ T1037.heap.size := Nat.le_refl _
    have hZ1037 : Z.Warmed39 (s.setVm T1037.vm).vm := State.Warmed39.trans (t := s.setVm s.vm) hZ hSx1037.1
    have hown1037 : (s.setVm T1037.vm).vm.findClass "com/example/alcance/alcance/IdentifiersIsQuotedPinLaw" = some m.cls := by rw [show (s.setVm T1037.vm).vm = T1037.vm from rfl, hSx1037.1.alike.findClass]; exact hown
    have X1037w : Stand p l e room_1 (s.setVm T1037.vm) m _ below meth c T1037 _ _ _ := X1037
    obtain ⟨t_1037, kt_1037, rfl, NQ1037, K1037, fq1037_0, fq1037_1, fq1037_2, IQ1037⟩ := hQ1037
    have N1038 := Fr.app N0f NQ1037
    have f1039 : Arv Z T1037.heap a1018 kc1018 .char (0 : Int32) [] (.int (0 : Int32)) := f1031.keep K1037 (ninS ne1027 nin0)
    have f1040 : Exa Z T1037.heap a1026 "java/lang/String" := A1026.keep K1037
    have Old1041 := Old1032.keep K1037 (allS ge1028 all0)
    have Kp1042 : Keep h0 T1037.heap [] := Kp1034.trans K1037 (allS (Or.inr (Nat.le_trans Kp1024.1 (Nat.le_of_eq g1026.symm))) all0)
    have Z1043 := Nat.le_trans Z1033 K1037.1
    refine Rch.st (fun _ k => st1037.trans k) ?_
    show Rch p e below T1037 (mkF m 76 #[.val (.int ln), .val (.int xa), .val (.int xb), .val (.int xc), .val (.int (0 : Int32)), .val (.int cv0), .val (.int cv1), .val (.int cv2), .val (.ref a1018), .unset, .unset] [(.ref a1026)]) _
    refine w_astore (pc' := 78) (l' := #[.val (.int ln), .val (.int xa), .val (.int xb), .val (.int xc), .val (.int (0 : Int32)), .val (.int cv0), .val (.int cv1), .val (.int cv2), .val (.ref a1018), .val (.ref a1026), .unset]) X1037w hx hby at_76 rfl rfl rfl ?_
    have J : ∀ (ex : Int32), (ex = (0 : Int32)) →  Rch p e below T1037 (mkF m 104 #[.val (.int ln), .val (.int xa), .val (.int xb), .val (.int xc), .val (.int (0 : Int32)), .val (.int cv0), .val (.int cv1), .val (.int cv2), .val (.ref a1018), .val (.ref a1026), .val (.int ex)] []) (FinW s (Q_rm_law Z G1 ln xa xb xc h0 n0) 24 3200) := by
      intro ex hex
      refine w_aload (pc' := 106) X1037w hx hby at_104 rfl rfl rfl ?_
      obtain ⟨_, _, ⟨T1044, L1044, k1044, n1044⟩, -, X1044, hSx1044, hgx1044, ⟨Lc1044, hQ1044, l1044, y1044, z1044⟩, st1044⟩ := callSS X1037w hx (y := (⟨"com/example/alcance/alcance/Identifiers", "isQuoted", "(Ljava/lang/String;)Z"⟩ : MethodName)) hown1037 (mvT hZ1037 (hw _ (List.mem_of_getElem? (i := 23) rfl))) (mvT hZ1037 (hw _ (List.mem_of_getElem? (i := 24) rfl))) (mvT hZ1037 (hw _ (List.mem_of_getElem? (i := 25) rfl))) (mvT hZ1037 (hw _ (List.mem_of_getElem? (i := 26) rfl))) (by decide) (backOfI (Ts := ([""] : List String)) (W := 0) (rm_iq_0 l Z a0 hw [] G1 a1026 t_1037 kt_1037 (0 : Int32) ([]) (.int (0 : Int32)) T1037.heap h0.size Z1043 (O2) (P5) f1040 fq1037_0 fq1037_1 fq1037_2 (by decide) (H54) (H59) (hcw) Old1041) hZ1037 IQ1037 (hw _ (List.mem_of_getElem? (i := 26) rfl)) (hw _ (List.mem_of_getElem? (i := 25) rfl)) (by decide) (by decide)) (g := (mkF m 106 #[.val (.int ln), .val (.int xa), .val (.int xb), .val (.int xc), .val (.int (0 : Int32)), .val (.int cv0), .val (.int cv1), .val (.int cv2), .val (.ref a1018), .val (.ref a1026), .val (.int ex)] [(.ref a1026)])) rfl (by rw [hml]; rfl) (argsL := [(.ref a1026)]) (rest := []) (lenOf pd__Ljava_lang_String__Z rfl) rfl (by show 2 * 0 + _ ≤ _; exact Nat.le_of_eq rfl) (hb hby at_106) (fun _ _ => ⟨rfl, (rfl : T1037.heap = T1037.heap), (by decide : 4 + 4 ≤ _), (by decide : 8 + 16 ≤ _)⟩)
      dsimp only [Pt.U, Pt.locs, Pt.cells, Pt.slots] at X1044 l1044 y1044 z1044 st1044 hQ1044 hSx1044 hgx1044
      subst l1044 y1044 z1044
      have hS1044 := foldS hS1037 (by rw [(rfl : T1037.heap = T1037.heap)]; exact hk1037) hSx1044 hgx1044
      have hk1044 : T1044.heap.size ≤ T1044.heap.size := Nat.le_refl _
      have hZ1044 : Z.Warmed39 (s.setVm T1044.vm).vm := State.Warmed39.trans (t := s.setVm T1037.vm) hZ1037 hSx1044.1
      have hown1044 : (s.setVm T1044.vm).vm.findClass "com/example/alcance/alcance/IdentifiersIsQuotedPinLaw" = some m.cls := by rw [show (s.setVm T1044.vm).vm = T1044.vm from rfl, hSx1044.1.alike.findClass]; exact hown1037
      have X1044w : Stand p l e room_1 (s.setVm T1044.vm) m _ below meth c T1044 _ _ _ := X1044
      obtain ⟨rfl, NQ1044, K1044, IQ1044⟩ := hQ1044
      have N1045 := Fr.app N1038 NQ1044
      have f1046 : Arv Z T1044.heap a1018 kc1018 .char (0 : Int32) [] (.int (0 : Int32)) := f1039.keep K1044 nin0
      have f1047 : Exa Z T1044.heap a1026 "java/lang/String" := f1040.keep K1044
      have f1048 : Fld Z T1044.heap a1026 "java/lang/String" "coder" "B" (.int (0 : Int32)) := fq1037_0.keep K1044 nin0
      have f1049 : Fld Z T1044.heap a1026 "java/lang/String" "value" "[B" (.ref t_1037) := fq1037_1.keep K1044 nin0
      have f1050 : Arv Z T1044.heap t_1037 kt_1037 .byte (0 : Int32) [] (.int (0 : Int32)) := fq1037_2.keep K1044 nin0
      have Old1051 := Old1041.keep K1044 all0
      have Kp1052 : Keep h0 T1044.heap [] := Kp1042.trans K1044 all0
      have Z1053 := Nat.le_trans Z1043 K1044.1
      refine Rch.st (fun _ k => st1044.trans k) ?_
      show Rch p e below T1044 (mkF m 109 #[.val (.int ln), .val (.int xa), .val (.int xb), .val (.int xc), .val (.int (0 : Int32)), .val (.int cv0), .val (.int cv1), .val (.int cv2), .val (.ref a1018), .val (.ref a1026), .val (.int ex)] [(.int (0 : Int32))]) _
      refine w_iload (pc' := 111) X1044w hx hby at_109 rfl rfl ?_
      refine w_icmpNo (pc' := 114) X1044w hx hby at_111 (XT.ii_ne_f (by rw [hex])) rfl ?_
      refine w_iconst (pc' := 115) (v := 1) X1044w hx hby at_114 rfl rfl ?_
      refine w_goto (pc' := 119) X1044w hx hby at_115 (by decide) ?_
      exact Rch.retVW X1044w hx hS1044 (by rw [(rfl : T1044.heap = T1044.heap)]; exact hk1044) Bd.returns rfl (Or.inl ⟨rfl, by simp, _, rfl⟩) (hb hby at_119) (by rw [(rfl : T1044.heap = T1044.heap)]; exact ⟨rfl, (own_Fr Z0 N1045), Kp1052, own_ib_mono (own_ib (s := s.setVm T1044.vm) IQ1044 X1044w.warmed) (by decide)⟩) (by decide) (by decide)
    refine w_iload (pc' := 80) X1037w hx hby at_78 rfl rfl ?_
    refine w_ifYes (pc' := 101) X1037w hx hby at_80 (XT.i0_le_t (by decide)) (by decide) ?_
    refine w_iconst (pc' := 102) (v := 0) X1037w hx hby at_101 rfl rfl ?_
    refine w_istore (pc' := 104) (l' := #[.val (.int ln), .val (.int xa), .val (.int xb), .val (.int xc), .val (.int (0 : Int32)), .val (.int cv0), .val (.int cv1), .val (.int cv2), .val (.ref a1018), .val (.ref a1026), .val (.int (0 : Int32))]) X1037w hx hby at_102 rfl rfl ?_
    exact J _ rfl
  · skip
    show Rch p e below s₁ (mkF m 28 #[.val (.int ln), .val (.int xa), .val (.int xb), .val (.int xc), .val (.int (1 : Int32)), .val (.int cv0), .val (.int cv1), .val (.int cv2), .unset, .unset, .unset] [(.int (1 : Int32))]) _
    obtain ⟨T1054, h1054, kc1054, X1054, e1054, E1054, A1054, st1054⟩ := newP X0 hx hZ (hw _ (List.mem_of_getElem? (i := 1) rfl)) e0 (g := (mkF m 28 #[.val (.int ln), .val (.int xa), .val (.int xb), .val (.int xc), .val (.int (1 : Int32)), .val (.int cv0), .val (.int cv1), .val (.int cv2), .unset, .unset, .unset] [(.int (1 : Int32))])) rfl (hb hby at_28) rfl (by decide : ¬ ((1 : Int32) < (0 : Int32))) (cap := 1) (by decide : (1 : Int32).toNatClampNeg ≤ 1) (by decide) (by decide) (by decide)
    obtain ⟨a1054, g1054⟩ : ∃ z, z = h0.size := ⟨_, rfl⟩
    rw [← g1054] at A1054 st1054
    have ge1055 : h0.size ≤ a1054 := Nat.le_trans Z0f (Nat.le_of_eq g1054.symm)
    have hk1057 := Nat.le_trans hk0 E1054.1
    have Old1058 := OldF.ext E1054
    have Z1059 := Nat.le_trans Z0f E1054.1
    have Kp1060 : Keep h0 h1054 [] := K00.ext E1054
    have f1061 : Arv Z h1054 a1054 kc1054 .char (1 : Int32) [(.int (0 : Int32))] (.int (0 : Int32)) := (Arv.new A1054 (by decide : ¬ ((1 : Int32) < (0 : Int32)))).pad (pad_rep [] (.int (0 : Int32)) 1)
    refine Rch.st (fun _ k => st1054 _ k) ?_
    show Rch p e below T1054 (mkF m 30 #[.val (.int ln), .val (.int xa), .val (.int xb), .val (.int xc), .val (.int (1 : Int32)), .val (.int cv0), .val (.int cv1), .val (.int cv2), .unset, .unset, .unset] [(.ref a1054)]) _
    refine w_astore (pc' := 32) (l' := #[.val (.int ln), .val (.int xa), .val (.int xb), .val (.int xc), .val (.int (1 : Int32)), .val (.int cv0), .val (.int cv1), .val (.int cv2), .val (.ref a1054), .unset, .unset]) X1054 hx hby at_30 rfl rfl rfl ?_
    refine w_iload (pc' := 34) X1054 hx hby at_32 rfl rfl ?_
    refine w_ifNo (pc' := 37) X1054 hx hby at_34 (XT.i0_le_f (by decide)) rfl ?_
    refine w_aload (pc' := 39) X1054 hx hby at_37 rfl rfl rfl ?_
    refine w_iconst (pc' := 40) (v := 0) X1054 hx hby at_39 rfl rfl ?_
    refine w_iload (pc' := 42) X1054 hx hby at_40 rfl rfl ?_
    obtain ⟨T1062, h1062, X1062, e1062, W1062, V1062, st1062⟩ := own_stC X1054 hx hZ e1054 f1061 (j := (0 : Int32)) ⟨by decide, by decide⟩ 0 (by decide) (by decide : 0 < 1) (g := (mkF m 42 #[.val (.int ln), .val (.int xa), .val (.int xb), .val (.int xc), .val (.int (1 : Int32)), .val (.int cv0), .val (.int cv1), .val (.int cv2), .val (.ref a1054), .unset, .unset] [(.int cv0), (.int (0 : Int32)), (.ref a1054)])) rfl rfl (hb hby at_42)
    have N1063 := Fr.snoc X1062 N0f ge1055
    have Old1064 := Old1058.wr W1062 ge1055
    have Z1065 := Nat.le_trans Z1059 (Keep.of_wr W1062).1
    have hk1066 := Nat.le_trans hk1057 (Keep.of_wr W1062).1
    have Kp1067 : Keep h0 h1062 [] := Kp1060.wr W1062 (Or.inr (Nat.le_trans K00.1 (Nat.le_of_eq g1054.symm)))
    have f1068 : Arv Z h1062 a1054 kc1054 .char (1 : Int32) [(.int (nar .char cv0))] (.int (0 : Int32)) := V1062
    refine Rch.st (fun _ k => st1062 _ k) ?_
    show Rch p e below T1062 (mkF m 43 #[.val (.int ln), .val (.int xa), .val (.int xb), .val (.int xc), .val (.int (1 : Int32)), .val (.int cv0), .val (.int cv1), .val (.int cv2), .val (.ref a1054), .unset, .unset] []) _
    refine w_iload (pc' := 45) X1062 hx hby at_43 rfl rfl ?_
    refine w_iconst (pc' := 46) (v := 1) X1062 hx hby at_45 rfl rfl ?_
    refine w_icmpYes (pc' := 55) X1062 hx hby at_46 (XT.ii_le_t (by decide)) (by decide) ?_
    refine w_iload (pc' := 57) X1062 hx hby at_55 rfl rfl ?_
    refine w_iconst (pc' := 58) (v := 2) X1062 hx hby at_57 rfl rfl ?_
    refine w_icmpYes (pc' := 67) X1062 hx hby at_58 (XT.ii_le_t (by decide)) (by decide) ?_
    have f1069 : Arv Z h1062 a1054 kc1054 .char (1 : Int32) [(.int cv0)] (.int (0 : Int32)) := by have z := f1068; rw [hr0] at z; exact z
    obtain ⟨T1070, h1070, X1070, e1070, E1070, A1070, D1070, -, st1070⟩ := newO X1062 hx hZ hown (hw _ (List.mem_of_getElem? (i := 2) rfl)) (hw _ (List.mem_of_getElem? (i := 3) rfl)) (hw _ (List.mem_of_getElem? (i := 4) rfl)) e1062 (g := (mkF m 67 #[.val (.int ln), .val (.int xa), .val (.int xb), .val (.int xc), .val (.int (1 : Int32)), .val (.int cv0), .val (.int cv1), .val (.int cv2), .val (.ref a1054), .unset, .unset] [])) rfl (hb hby at_67) (by decide) (by decide)
    obtain ⟨a1070, g1070⟩ : ∃ z, z = h1062.size := ⟨_, rfl⟩
    rw [← g1070] at A1070 D1070 st1070
    have ne1071 : a1054 ≠ a1070 := by rw [g1070]; exact Nat.ne_of_lt f1069.lt
    have ge1072 : h0.size ≤ a1070 := Nat.le_trans Z1065 (Nat.le_of_eq g1070.symm)
    have hk1074 := Nat.le_trans hk1066 E1070.1
    have f1075 : Arv Z h1070 a1054 kc1054 .char (1 : Int32) [(.int cv0)] (.int (0 : Int32)) := f1069.ext E1070
    have Old1076 := Old1064.ext E1070
    have Z1077 := Nat.le_trans Z1065 E1070.1
    have Kp1078 : Keep h0 h1070 [] := Kp1067.ext E1070
    have f1079 : Fld Z h1070 a1070 "java/lang/String" "coder" "B" (.int (0 : Int32)) := D1070 (Or.inr (hw _ (List.mem_of_getElem? (i := 18) rfl))) (ty := .byte) (by decide)
    have f1080 : Fld Z h1070 a1070 "java/lang/String" "value" "[B" .null := D1070 (Or.inr (hw _ (List.mem_of_getElem? (i := 17) rfl))) (ty := (.array .byte)) (by decide)
    refine Rch.st (fun _ k => st1070 _ k) ?_
    show Rch p e below T1070 (mkF m 70 #[.val (.int ln), .val (.int xa), .val (.int xb), .val (.int xc), .val (.int (1 : Int32)), .val (.int cv0), .val (.int cv1), .val (.int cv2), .val (.ref a1054), .unset, .unset] [(.ref a1070)]) _
    refine w_dup (pc' := 71) X1070 hx hby at_70 rfl rfl ?_
    refine w_aload (pc' := 73) X1070 hx hby at_71 rfl rfl rfl ?_
    by_cases hb1081 : (255 : Int32) < cv0
    · skip
      obtain ⟨_, _, ⟨T1082, L1082, k1082, n1082⟩, -, X1082, ⟨Lc1082, hQ1082, l1082, y1082, z1082⟩, st1082⟩ := X1070.specialBack hx (y := (⟨"java/lang/String", "<init>", "([C)V"⟩ : MethodName)) rfl hown (mvT hZ (hw _ (List.mem_of_getElem? (i := 5) rfl))) (mvT hZ (hw _ (List.mem_of_getElem? (i := 6) rfl))) (mvT hZ (hw _ (List.mem_of_getElem? (i := 7) rfl))) (by decide) (backOf (W := 1) (rm_init1_1_0 l Z a0 hw [] G1 a1070 a1054 kc1054 cv0 h1070 h0.size Z1077 (O2) (P5) (SA) (SH) (SL) A1070 f1079 f1080 f1075 (ge1072) ((Ne.symm ne1071)) (hb1081) (hn0) (hm0) Old1076) hZ (hw _ (List.mem_of_getElem? (i := 7) rfl)) (hw _ (List.mem_of_getElem? (i := 4) rfl)) (by decide) (by decide)) (g := (mkF m 73 #[.val (.int ln), .val (.int xa), .val (.int xb), .val (.int xc), .val (.int (1 : Int32)), .val (.int cv0), .val (.int cv1), .val (.int cv2), .val (.ref a1054), .unset, .unset] [(.ref a1054), (.ref a1070), (.ref a1070)])) rfl (by rw [hml]; rfl) (Steps.refl _) (a := a1070) (argsL := [(.ref a1054)]) (rest := [(.ref a1070)]) (lenOf pd___C_V rfl) rfl (by show 2 * 0 + _ ≤ _; exact Nat.le_of_eq rfl) (hb hby at_73) (fun _ _ => ⟨rfl, e1070, (by decide : 2 + 2 ≤ _), (by decide : 5 + 3 ≤ _)⟩)
      dsimp only [Pt.U, Pt.locs, Pt.cells, Pt.slots] at X1082 l1082 y1082 z1082 st1082 hQ1082
      subst l1082 y1082 z1082
      obtain ⟨t_1082, kt_1082, rfl, NQ1082, K1082, pq1082_0, fq1082_0, fq1082_1, fq1082_2⟩ := hQ1082
      have N1083 := Fr.app N1063 NQ1082
      have ne1084 : a1054 ≠ t_1082 := Nat.ne_of_lt (Nat.lt_of_lt_of_le f1075.lt pq1082_0)
      have ne1085 : a1070 ≠ t_1082 := Nat.ne_of_lt (Nat.lt_of_lt_of_le A1070.lt pq1082_0)
      have ge1086 : h0.size ≤ t_1082 := Nat.le_trans Z1077 pq1082_0
      have f1087 : Arv Z T1082.heap a1054 kc1054 .char (1 : Int32) [(.int cv0)] (.int (0 : Int32)) := f1075.keep K1082 (ninS ne1071 nin0)
      have f1088 : Exa Z T1082.heap a1070 "java/lang/String" := A1070.keep K1082
      have Old1089 := Old1076.keep K1082 (allS ge1072 all0)
      have Kp1090 : Keep h0 T1082.heap [] := Kp1078.trans K1082 (allS (Or.inr (Nat.le_trans Kp1067.1 (Nat.le_of_eq g1070.symm))) all0)
      have Z1091 := Nat.le_trans Z1077 K1082.1
      have hk1092 := Nat.le_trans hk1074 K1082.1
      refine Rch.st (fun _ k => st1082.trans k) ?_
      show Rch p e below T1082 (mkF m 76 #[.val (.int ln), .val (.int xa), .val (.int xb), .val (.int xc), .val (.int (1 : Int32)), .val (.int cv0), .val (.int cv1), .val (.int cv2), .val (.ref a1054), .unset, .unset] [(.ref a1070)]) _
      refine w_astore (pc' := 78) (l' := #[.val (.int ln), .val (.int xa), .val (.int xb), .val (.int xc), .val (.int (1 : Int32)), .val (.int cv0), .val (.int cv1), .val (.int cv2), .val (.ref a1054), .val (.ref a1070), .unset]) X1082 hx hby at_76 rfl rfl rfl ?_
      have J : ∀ (ex : Int32), (ex = own_iq cv0) →  Rch p e below T1082 (mkF m 104 #[.val (.int ln), .val (.int xa), .val (.int xb), .val (.int xc), .val (.int (1 : Int32)), .val (.int cv0), .val (.int cv1), .val (.int cv2), .val (.ref a1054), .val (.ref a1070), .val (.int ex)] []) (FinW s (Q_rm_law Z G1 ln xa xb xc h0 n0) 24 3200) := by
        intro ex hex
        refine w_aload (pc' := 106) X1082 hx hby at_104 rfl rfl rfl ?_
        obtain ⟨_, _, ⟨T1093, L1093, k1093, n1093⟩, -, X1093, hSx1093, hgx1093, ⟨Lc1093, hQ1093, l1093, y1093, z1093⟩, st1093⟩ := callSS X1082 hx (y := (⟨"com/example/alcance/alcance/Identifiers", "isQuoted", "(Ljava/lang/String;)Z"⟩ : MethodName)) hown (mvT hZ (hw _ (List.mem_of_getElem? (i := 23) rfl))) (mvT hZ (hw _ (List.mem_of_getElem? (i := 24) rfl))) (mvT hZ (hw _ (List.mem_of_getElem? (i := 25) rfl))) (mvT hZ (hw _ (List.mem_of_getElem? (i := 26) rfl))) (by decide) (backOfI (Ts := ([] : List String)) (W := 0) (rm_iq_U l Z a0 hw [] G1 a1070 t_1082 kt_1082 (2 : Int32) ([(.int (own_lo cv0)), (.int (own_hi cv0))]) (.int (0 : Int32)) cv0 T1082.heap h0.size Z1091 (O2) (P5) (SA) (SH) (SL) f1088 fq1082_0 fq1082_1 fq1082_2 (by decide) (by decide) (by decide) (rfl) (rfl) (hn0) (hm0) (H54) (H59) (hcw) Old1089) hZ hI (hw _ (List.mem_of_getElem? (i := 26) rfl)) (hw _ (List.mem_of_getElem? (i := 25) rfl)) (by decide) (by decide)) (g := (mkF m 106 #[.val (.int ln), .val (.int xa), .val (.int xb), .val (.int xc), .val (.int (1 : Int32)), .val (.int cv0), .val (.int cv1), .val (.int cv2), .val (.ref a1054), .val (.ref a1070), .val (.int ex)] [(.ref a1070)])) rfl (by rw [hml]; rfl) (argsL := [(.ref a1070)]) (rest := []) (lenOf pd__Ljava_lang_String__Z rfl) rfl (by show 2 * 0 + _ ≤ _; exact Nat.le_of_eq rfl) (hb hby at_106) (fun _ _ => ⟨rfl, (rfl : T1082.heap = T1082.heap), (by decide : 4 + 4 ≤ _), (by decide : 8 + 16 ≤ _)⟩)
        dsimp only [Pt.U, Pt.locs, Pt.cells, Pt.slots] at X1093 l1093 y1093 z1093 st1093 hQ1093 hSx1093 hgx1093
        subst l1093 y1093 z1093
        have hS1093 := foldS hS0 (by rw [(rfl : T1082.heap = T1082.heap)]; exact hk1092) hSx1093 hgx1093
        have hk1093 : T1093.heap.size ≤ T1093.heap.size := Nat.le_refl _
        have hZ1093 : Z.Warmed39 (s.setVm T1093.vm).vm := State.Warmed39.trans (t := s.setVm s.vm) hZ hSx1093.1
        have hown1093 : (s.setVm T1093.vm).vm.findClass "com/example/alcance/alcance/IdentifiersIsQuotedPinLaw" = some m.cls := by rw [show (s.setVm T1093.vm).vm = T1093.vm from rfl, hSx1093.1.alike.findClass]; exact hown
        have X1093w : Stand p l e room_1 (s.setVm T1093.vm) m _ below meth c T1093 _ _ _ := X1093
        obtain ⟨rfl, NQ1093, K1093, IQ1093⟩ := hQ1093
        have N1094 := Fr.app N1083 NQ1093
        have f1095 : Arv Z T1093.heap a1054 kc1054 .char (1 : Int32) [(.int cv0)] (.int (0 : Int32)) := f1087.keep K1093 nin0
        have f1096 : Exa Z T1093.heap a1070 "java/lang/String" := f1088.keep K1093
        have f1097 : Fld Z T1093.heap a1070 "java/lang/String" "coder" "B" (.int (1 : Int32)) := fq1082_0.keep K1093 nin0
        have f1098 : Fld Z T1093.heap a1070 "java/lang/String" "value" "[B" (.ref t_1082) := fq1082_1.keep K1093 nin0
        have f1099 : Arv Z T1093.heap t_1082 kt_1082 .byte (2 : Int32) [(.int (own_lo cv0)), (.int (own_hi cv0))] (.int (0 : Int32)) := fq1082_2.keep K1093 nin0
        have Old1100 := Old1089.keep K1093 all0
        have Kp1101 : Keep h0 T1093.heap [] := Kp1090.trans K1093 all0
        have Z1102 := Nat.le_trans Z1091 K1093.1
        refine Rch.st (fun _ k => st1093.trans k) ?_
        show Rch p e below T1093 (mkF m 109 #[.val (.int ln), .val (.int xa), .val (.int xb), .val (.int xc), .val (.int (1 : Int32)), .val (.int cv0), .val (.int cv1), .val (.int cv2), .val (.ref a1054), .val (.ref a1070), .val (.int ex)] [(.int (own_iq cv0))]) _
        refine w_iload (pc' := 111) X1093w hx hby at_109 rfl rfl ?_
        refine w_icmpNo (pc' := 114) X1093w hx hby at_111 (XT.ii_ne_f (hex.symm)) rfl ?_
        refine w_iconst (pc' := 115) (v := 1) X1093w hx hby at_114 rfl rfl ?_
        refine w_goto (pc' := 119) X1093w hx hby at_115 (by decide) ?_
        exact Rch.retVW X1093w hx hS1093 (by rw [(rfl : T1093.heap = T1093.heap)]; exact hk1093) Bd.returns rfl (Or.inl ⟨rfl, by simp, _, rfl⟩) (hb hby at_119) (by rw [(rfl : T1093.heap = T1093.heap)]; exact ⟨rfl, (own_Fr Z0 N1094), Kp1101, own_ib_mono (own_ib (s := s.setVm T1093.vm) IQ1093 X1093w.warmed) (by decide)⟩) (by decide) (by decide)
      refine w_iload (pc' := 80) X1082 hx hby at_78 rfl rfl ?_
      refine w_ifNo (pc' := 83) X1082 hx hby at_80 (XT.i0_le_f (by decide)) rfl ?_
      refine w_iload (pc' := 85) X1082 hx hby at_83 rfl rfl ?_
      refine w_bipush (pc' := 87) (v := 34) X1082 hx hby at_85 rfl rfl ?_
      by_cases c1103 : cv0 = (34 : Int32)
      · skip
        refine w_icmpYes (pc' := 97) X1082 hx hby at_87 (XT.ii_eq_t (c1103)) (by decide) ?_
        refine w_iconst (pc' := 98) (v := 1) X1082 hx hby at_97 rfl rfl ?_
        refine w_goto (pc' := 102) X1082 hx hby at_98 (by decide) ?_
        refine w_istore (pc' := 104) (l' := #[.val (.int ln), .val (.int xa), .val (.int xb), .val (.int xc), .val (.int (1 : Int32)), .val (.int cv0), .val (.int cv1), .val (.int cv2), .val (.ref a1054), .val (.ref a1070), .val (.int (1 : Int32))]) X1082 hx hby at_102 rfl rfl ?_
        exact J _ (by simp [own_iq, c1103])
      · skip
        refine w_icmpNo (pc' := 90) X1082 hx hby at_87 (XT.ii_eq_f (c1103)) rfl ?_
        refine w_iload (pc' := 92) X1082 hx hby at_90 rfl rfl ?_
        refine w_bipush (pc' := 94) (v := 96) X1082 hx hby at_92 rfl rfl ?_
        by_cases c1104 : cv0 = (96 : Int32)
        · skip
          refine w_icmpNo (pc' := 97) X1082 hx hby at_94 (XT.ii_ne_f (c1104)) rfl ?_
          refine w_iconst (pc' := 98) (v := 1) X1082 hx hby at_97 rfl rfl ?_
          refine w_goto (pc' := 102) X1082 hx hby at_98 (by decide) ?_
          refine w_istore (pc' := 104) (l' := #[.val (.int ln), .val (.int xa), .val (.int xb), .val (.int xc), .val (.int (1 : Int32)), .val (.int cv0), .val (.int cv1), .val (.int cv2), .val (.ref a1054), .val (.ref a1070), .val (.int (1 : Int32))]) X1082 hx hby at_102 rfl rfl ?_
          exact J _ (by simp [own_iq, c1103, c1104])
        · skip
          refine w_icmpYes (pc' := 101) X1082 hx hby at_94 (XT.ii_ne_t (c1104)) (by decide) ?_
          refine w_iconst (pc' := 102) (v := 0) X1082 hx hby at_101 rfl rfl ?_
          refine w_istore (pc' := 104) (l' := #[.val (.int ln), .val (.int xa), .val (.int xb), .val (.int xc), .val (.int (1 : Int32)), .val (.int cv0), .val (.int cv1), .val (.int cv2), .val (.ref a1054), .val (.ref a1070), .val (.int (0 : Int32))]) X1082 hx hby at_102 rfl rfl ?_
          exact J _ (by simp [own_iq, c1103, c1104])
    · skip
      obtain ⟨_, _, ⟨T1105, L1105, k1105, n1105⟩, -, X1105, ⟨Lc1105, hQ1105, l1105, y1105, z1105⟩, st1105⟩ := X1070.specialBack hx (y := (⟨"java/lang/String", "<init>", "([C)V"⟩ : MethodName)) rfl hown (mvT hZ (hw _ (List.mem_of_getElem? (i := 5) rfl))) (mvT hZ (hw _ (List.mem_of_getElem? (i := 6) rfl))) (mvT hZ (hw _ (List.mem_of_getElem? (i := 7) rfl))) (by decide) (backOf (W := 1) (rm_init1_1 l Z a0 hw [] G1 a1070 a1054 kc1054 cv0 h1070 h0.size Z1077 (O2) (P5) A1070 f1079 f1080 f1075 (ge1072) ((Ne.symm ne1071)) (hb1081) Old1076) hZ (hw _ (List.mem_of_getElem? (i := 7) rfl)) (hw _ (List.mem_of_getElem? (i := 4) rfl)) (by decide) (by decide)) (g := (mkF m 73 #[.val (.int ln), .val (.int xa), .val (.int xb), .val (.int xc), .val (.int (1 : Int32)), .val (.int cv0), .val (.int cv1), .val (.int cv2), .val (.ref a1054), .unset, .unset] [(.ref a1054), (.ref a1070), (.ref a1070)])) rfl (by rw [hml]; rfl) (Steps.refl _) (a := a1070) (argsL := [(.ref a1054)]) (rest := [(.ref a1070)]) (lenOf pd___C_V rfl) rfl (by show 2 * 0 + _ ≤ _; exact Nat.le_of_eq rfl) (hb hby at_73) (fun _ _ => ⟨rfl, e1070, (by decide : 2 + 1 ≤ _), (by decide : 5 + 1 ≤ _)⟩)
      dsimp only [Pt.U, Pt.locs, Pt.cells, Pt.slots] at X1105 l1105 y1105 z1105 st1105 hQ1105
      subst l1105 y1105 z1105
      obtain ⟨t_1105, kt_1105, rfl, NQ1105, K1105, pq1105_0, fq1105_0, fq1105_1, fq1105_2⟩ := hQ1105
      have N1106 := Fr.app N1063 NQ1105
      have ne1107 : a1054 ≠ t_1105 := Nat.ne_of_lt (Nat.lt_of_lt_of_le f1075.lt pq1105_0)
      have ne1108 : a1070 ≠ t_1105 := Nat.ne_of_lt (Nat.lt_of_lt_of_le A1070.lt pq1105_0)
      have ge1109 : h0.size ≤ t_1105 := Nat.le_trans Z1077 pq1105_0
      have f1110 : Arv Z T1105.heap a1054 kc1054 .char (1 : Int32) [(.int cv0)] (.int (0 : Int32)) := f1075.keep K1105 (ninS ne1071 nin0)
      have f1111 : Exa Z T1105.heap a1070 "java/lang/String" := A1070.keep K1105
      have Old1112 := Old1076.keep K1105 (allS ge1072 all0)
      have Kp1113 : Keep h0 T1105.heap [] := Kp1078.trans K1105 (allS (Or.inr (Nat.le_trans Kp1067.1 (Nat.le_of_eq g1070.symm))) all0)
      have Z1114 := Nat.le_trans Z1077 K1105.1
      have hk1115 := Nat.le_trans hk1074 K1105.1
      refine Rch.st (fun _ k => st1105.trans k) ?_
      show Rch p e below T1105 (mkF m 76 #[.val (.int ln), .val (.int xa), .val (.int xb), .val (.int xc), .val (.int (1 : Int32)), .val (.int cv0), .val (.int cv1), .val (.int cv2), .val (.ref a1054), .unset, .unset] [(.ref a1070)]) _
      have hb0 := hb1081
      refine w_astore (pc' := 78) (l' := #[.val (.int ln), .val (.int xa), .val (.int xb), .val (.int xc), .val (.int (1 : Int32)), .val (.int cv0), .val (.int cv1), .val (.int cv2), .val (.ref a1054), .val (.ref a1070), .unset]) X1105 hx hby at_76 rfl rfl rfl ?_
      have J : ∀ (ex : Int32), (ex = own_iq cv0) →  Rch p e below T1105 (mkF m 104 #[.val (.int ln), .val (.int xa), .val (.int xb), .val (.int xc), .val (.int (1 : Int32)), .val (.int cv0), .val (.int cv1), .val (.int cv2), .val (.ref a1054), .val (.ref a1070), .val (.int ex)] []) (FinW s (Q_rm_law Z G1 ln xa xb xc h0 n0) 24 3200) := by
        intro ex hex
        refine w_aload (pc' := 106) X1105 hx hby at_104 rfl rfl rfl ?_
        obtain ⟨_, _, ⟨T1116, L1116, k1116, n1116⟩, -, X1116, hSx1116, hgx1116, ⟨Lc1116, hQ1116, l1116, y1116, z1116⟩, st1116⟩ := callSS X1105 hx (y := (⟨"com/example/alcance/alcance/Identifiers", "isQuoted", "(Ljava/lang/String;)Z"⟩ : MethodName)) hown (mvT hZ (hw _ (List.mem_of_getElem? (i := 23) rfl))) (mvT hZ (hw _ (List.mem_of_getElem? (i := 24) rfl))) (mvT hZ (hw _ (List.mem_of_getElem? (i := 25) rfl))) (mvT hZ (hw _ (List.mem_of_getElem? (i := 26) rfl))) (by decide) (backOfI (Ts := ([] : List String)) (W := 0) (rm_iq_L l Z a0 hw [] G1 a1070 t_1105 kt_1105 (1 : Int32) ([(.int (own_by cv0))]) (.int (0 : Int32)) cv0 T1105.heap h0.size Z1114 (O2) (P5) f1111 fq1105_0 fq1105_1 fq1105_2 (by decide) (by decide) (rfl) (hn0) (hb0) (H54) (H59) (hcw) Old1112) hZ hI (hw _ (List.mem_of_getElem? (i := 26) rfl)) (hw _ (List.mem_of_getElem? (i := 25) rfl)) (by decide) (by decide)) (g := (mkF m 106 #[.val (.int ln), .val (.int xa), .val (.int xb), .val (.int xc), .val (.int (1 : Int32)), .val (.int cv0), .val (.int cv1), .val (.int cv2), .val (.ref a1054), .val (.ref a1070), .val (.int ex)] [(.ref a1070)])) rfl (by rw [hml]; rfl) (argsL := [(.ref a1070)]) (rest := []) (lenOf pd__Ljava_lang_String__Z rfl) rfl (by show 2 * 0 + _ ≤ _; exact Nat.le_of_eq rfl) (hb hby at_106) (fun _ _ => ⟨rfl, (rfl : T1105.heap = T1105.heap), (by decide : 3 + 4 ≤ _), (by decide : 6 + 16 ≤ _)⟩)
        dsimp only [Pt.U, Pt.locs, Pt.cells, Pt.slots] at X1116 l1116 y1116 z1116 st1116 hQ1116 hSx1116 hgx1116
        subst l1116 y1116 z1116
        have hS1116 := foldS hS0 (by rw [(rfl : T1105.heap = T1105.heap)]; exact hk1115) hSx1116 hgx1116
        have hk1116 : T1116.heap.size ≤ T1116.heap.size := Nat.le_refl _
        have hZ1116 : Z.Warmed39 (s.setVm T1116.vm).vm := State.Warmed39.trans (t := s.setVm s.vm) hZ hSx1116.1
        have hown1116 : (s.setVm T1116.vm).vm.findClass "com/example/alcance/alcance/IdentifiersIsQuotedPinLaw" = some m.cls := by rw [show (s.setVm T1116.vm).vm = T1116.vm from rfl, hSx1116.1.alike.findClass]; exact hown
        have X1116w : Stand p l e room_1 (s.setVm T1116.vm) m _ below meth c T1116 _ _ _ := X1116
        obtain ⟨rfl, NQ1116, K1116, IQ1116⟩ := hQ1116
        have N1117 := Fr.app N1106 NQ1116
        have f1118 : Arv Z T1116.heap a1054 kc1054 .char (1 : Int32) [(.int cv0)] (.int (0 : Int32)) := f1110.keep K1116 nin0
        have f1119 : Exa Z T1116.heap a1070 "java/lang/String" := f1111.keep K1116
        have f1120 : Fld Z T1116.heap a1070 "java/lang/String" "coder" "B" (.int (0 : Int32)) := fq1105_0.keep K1116 nin0
        have f1121 : Fld Z T1116.heap a1070 "java/lang/String" "value" "[B" (.ref t_1105) := fq1105_1.keep K1116 nin0
        have f1122 : Arv Z T1116.heap t_1105 kt_1105 .byte (1 : Int32) [(.int (own_by cv0))] (.int (0 : Int32)) := fq1105_2.keep K1116 nin0
        have Old1123 := Old1112.keep K1116 all0
        have Kp1124 : Keep h0 T1116.heap [] := Kp1113.trans K1116 all0
        have Z1125 := Nat.le_trans Z1114 K1116.1
        refine Rch.st (fun _ k => st1116.trans k) ?_
        show Rch p e below T1116 (mkF m 109 #[.val (.int ln), .val (.int xa), .val (.int xb), .val (.int xc), .val (.int (1 : Int32)), .val (.int cv0), .val (.int cv1), .val (.int cv2), .val (.ref a1054), .val (.ref a1070), .val (.int ex)] [(.int (own_iq cv0))]) _
        refine w_iload (pc' := 111) X1116w hx hby at_109 rfl rfl ?_
        refine w_icmpNo (pc' := 114) X1116w hx hby at_111 (XT.ii_ne_f (hex.symm)) rfl ?_
        refine w_iconst (pc' := 115) (v := 1) X1116w hx hby at_114 rfl rfl ?_
        refine w_goto (pc' := 119) X1116w hx hby at_115 (by decide) ?_
        exact Rch.retVW X1116w hx hS1116 (by rw [(rfl : T1116.heap = T1116.heap)]; exact hk1116) Bd.returns rfl (Or.inl ⟨rfl, by simp, _, rfl⟩) (hb hby at_119) (by rw [(rfl : T1116.heap = T1116.heap)]; exact ⟨rfl, (own_Fr Z0 N1117), Kp1124, own_ib_mono (own_ib (s := s.setVm T1116.vm) IQ1116 X1116w.warmed) (by decide)⟩) (by decide) (by decide)
      refine w_iload (pc' := 80) X1105 hx hby at_78 rfl rfl ?_
      refine w_ifNo (pc' := 83) X1105 hx hby at_80 (XT.i0_le_f (by decide)) rfl ?_
      refine w_iload (pc' := 85) X1105 hx hby at_83 rfl rfl ?_
      refine w_bipush (pc' := 87) (v := 34) X1105 hx hby at_85 rfl rfl ?_
      by_cases c1126 : cv0 = (34 : Int32)
      · skip
        refine w_icmpYes (pc' := 97) X1105 hx hby at_87 (XT.ii_eq_t (c1126)) (by decide) ?_
        refine w_iconst (pc' := 98) (v := 1) X1105 hx hby at_97 rfl rfl ?_
        refine w_goto (pc' := 102) X1105 hx hby at_98 (by decide) ?_
        refine w_istore (pc' := 104) (l' := #[.val (.int ln), .val (.int xa), .val (.int xb), .val (.int xc), .val (.int (1 : Int32)), .val (.int cv0), .val (.int cv1), .val (.int cv2), .val (.ref a1054), .val (.ref a1070), .val (.int (1 : Int32))]) X1105 hx hby at_102 rfl rfl ?_
        exact J _ (by simp [own_iq, c1126])
      · skip
        refine w_icmpNo (pc' := 90) X1105 hx hby at_87 (XT.ii_eq_f (c1126)) rfl ?_
        refine w_iload (pc' := 92) X1105 hx hby at_90 rfl rfl ?_
        refine w_bipush (pc' := 94) (v := 96) X1105 hx hby at_92 rfl rfl ?_
        by_cases c1127 : cv0 = (96 : Int32)
        · skip
          refine w_icmpNo (pc' := 97) X1105 hx hby at_94 (XT.ii_ne_f (c1127)) rfl ?_
          refine w_iconst (pc' := 98) (v := 1) X1105 hx hby at_97 rfl rfl ?_
          refine w_goto (pc' := 102) X1105 hx hby at_98 (by decide) ?_
          refine w_istore (pc' := 104) (l' := #[.val (.int ln), .val (.int xa), .val (.int xb), .val (.int xc), .val (.int (1 : Int32)), .val (.int cv0), .val (.int cv1), .val (.int cv2), .val (.ref a1054), .val (.ref a1070), .val (.int (1 : Int32))]) X1105 hx hby at_102 rfl rfl ?_
          exact J _ (by simp [own_iq, c1126, c1127])
        · skip
          refine w_icmpYes (pc' := 101) X1105 hx hby at_94 (XT.ii_ne_t (c1127)) (by decide) ?_
          refine w_iconst (pc' := 102) (v := 0) X1105 hx hby at_101 rfl rfl ?_
          refine w_istore (pc' := 104) (l' := #[.val (.int ln), .val (.int xa), .val (.int xb), .val (.int xc), .val (.int (1 : Int32)), .val (.int cv0), .val (.int cv1), .val (.int cv2), .val (.ref a1054), .val (.ref a1070), .val (.int (0 : Int32))]) X1105 hx hby at_102 rfl rfl ?_
          exact J _ (by simp [own_iq, c1126, c1127])
  · skip
    show Rch p e below s₁ (mkF m 28 #[.val (.int ln), .val (.int xa), .val (.int xb), .val (.int xc), .val (.int (2 : Int32)), .val (.int cv0), .val (.int cv1), .val (.int cv2), .unset, .unset, .unset] [(.int (2 : Int32))]) _
    obtain ⟨T1128, h1128, kc1128, X1128, e1128, E1128, A1128, st1128⟩ := newP X0 hx hZ (hw _ (List.mem_of_getElem? (i := 1) rfl)) e0 (g := (mkF m 28 #[.val (.int ln), .val (.int xa), .val (.int xb), .val (.int xc), .val (.int (2 : Int32)), .val (.int cv0), .val (.int cv1), .val (.int cv2), .unset, .unset, .unset] [(.int (2 : Int32))])) rfl (hb hby at_28) rfl (by decide : ¬ ((2 : Int32) < (0 : Int32))) (cap := 2) (by decide : (2 : Int32).toNatClampNeg ≤ 2) (by decide) (by decide) (by decide)
    obtain ⟨a1128, g1128⟩ : ∃ z, z = h0.size := ⟨_, rfl⟩
    rw [← g1128] at A1128 st1128
    have ge1129 : h0.size ≤ a1128 := Nat.le_trans Z0f (Nat.le_of_eq g1128.symm)
    have hk1131 := Nat.le_trans hk0 E1128.1
    have Old1132 := OldF.ext E1128
    have Z1133 := Nat.le_trans Z0f E1128.1
    have Kp1134 : Keep h0 h1128 [] := K00.ext E1128
    have f1135 : Arv Z h1128 a1128 kc1128 .char (2 : Int32) [(.int (0 : Int32)), (.int (0 : Int32))] (.int (0 : Int32)) := (Arv.new A1128 (by decide : ¬ ((2 : Int32) < (0 : Int32)))).pad (pad_rep [] (.int (0 : Int32)) 2)
    refine Rch.st (fun _ k => st1128 _ k) ?_
    show Rch p e below T1128 (mkF m 30 #[.val (.int ln), .val (.int xa), .val (.int xb), .val (.int xc), .val (.int (2 : Int32)), .val (.int cv0), .val (.int cv1), .val (.int cv2), .unset, .unset, .unset] [(.ref a1128)]) _
    refine w_astore (pc' := 32) (l' := #[.val (.int ln), .val (.int xa), .val (.int xb), .val (.int xc), .val (.int (2 : Int32)), .val (.int cv0), .val (.int cv1), .val (.int cv2), .val (.ref a1128), .unset, .unset]) X1128 hx hby at_30 rfl rfl rfl ?_
    refine w_iload (pc' := 34) X1128 hx hby at_32 rfl rfl ?_
    refine w_ifNo (pc' := 37) X1128 hx hby at_34 (XT.i0_le_f (by decide)) rfl ?_
    refine w_aload (pc' := 39) X1128 hx hby at_37 rfl rfl rfl ?_
    refine w_iconst (pc' := 40) (v := 0) X1128 hx hby at_39 rfl rfl ?_
    refine w_iload (pc' := 42) X1128 hx hby at_40 rfl rfl ?_
    obtain ⟨T1136, h1136, X1136, e1136, W1136, V1136, st1136⟩ := own_stC X1128 hx hZ e1128 f1135 (j := (0 : Int32)) ⟨by decide, by decide⟩ 0 (by decide) (by decide : 0 < 2) (g := (mkF m 42 #[.val (.int ln), .val (.int xa), .val (.int xb), .val (.int xc), .val (.int (2 : Int32)), .val (.int cv0), .val (.int cv1), .val (.int cv2), .val (.ref a1128), .unset, .unset] [(.int cv0), (.int (0 : Int32)), (.ref a1128)])) rfl rfl (hb hby at_42)
    have N1137 := Fr.snoc X1136 N0f ge1129
    have Old1138 := Old1132.wr W1136 ge1129
    have Z1139 := Nat.le_trans Z1133 (Keep.of_wr W1136).1
    have hk1140 := Nat.le_trans hk1131 (Keep.of_wr W1136).1
    have Kp1141 : Keep h0 h1136 [] := Kp1134.wr W1136 (Or.inr (Nat.le_trans K00.1 (Nat.le_of_eq g1128.symm)))
    have f1142 : Arv Z h1136 a1128 kc1128 .char (2 : Int32) [(.int (nar .char cv0)), (.int (0 : Int32))] (.int (0 : Int32)) := V1136
    refine Rch.st (fun _ k => st1136 _ k) ?_
    show Rch p e below T1136 (mkF m 43 #[.val (.int ln), .val (.int xa), .val (.int xb), .val (.int xc), .val (.int (2 : Int32)), .val (.int cv0), .val (.int cv1), .val (.int cv2), .val (.ref a1128), .unset, .unset] []) _
    refine w_iload (pc' := 45) X1136 hx hby at_43 rfl rfl ?_
    refine w_iconst (pc' := 46) (v := 1) X1136 hx hby at_45 rfl rfl ?_
    refine w_icmpNo (pc' := 49) X1136 hx hby at_46 (XT.ii_le_f (by decide)) rfl ?_
    refine w_aload (pc' := 51) X1136 hx hby at_49 rfl rfl rfl ?_
    refine w_iconst (pc' := 52) (v := 1) X1136 hx hby at_51 rfl rfl ?_
    refine w_iload (pc' := 54) X1136 hx hby at_52 rfl rfl ?_
    obtain ⟨T1143, h1143, X1143, e1143, W1143, V1143, st1143⟩ := own_stC X1136 hx hZ e1136 f1142 (j := (1 : Int32)) ⟨by decide, by decide⟩ 1 (by decide) (by decide : 1 < 2) (g := (mkF m 54 #[.val (.int ln), .val (.int xa), .val (.int xb), .val (.int xc), .val (.int (2 : Int32)), .val (.int cv0), .val (.int cv1), .val (.int cv2), .val (.ref a1128), .unset, .unset] [(.int cv1), (.int (1 : Int32)), (.ref a1128)])) rfl rfl (hb hby at_54)
    have N1144 := Fr.snoc X1143 N1137 ge1129
    have Old1145 := Old1138.wr W1143 ge1129
    have Z1146 := Nat.le_trans Z1139 (Keep.of_wr W1143).1
    have hk1147 := Nat.le_trans hk1140 (Keep.of_wr W1143).1
    have Kp1148 : Keep h0 h1143 [] := Kp1141.wr W1143 (Or.inr (Nat.le_trans K00.1 (Nat.le_of_eq g1128.symm)))
    have f1149 : Arv Z h1143 a1128 kc1128 .char (2 : Int32) [(.int (nar .char cv0)), (.int (nar .char cv1))] (.int (0 : Int32)) := V1143
    refine Rch.st (fun _ k => st1143 _ k) ?_
    show Rch p e below T1143 (mkF m 55 #[.val (.int ln), .val (.int xa), .val (.int xb), .val (.int xc), .val (.int (2 : Int32)), .val (.int cv0), .val (.int cv1), .val (.int cv2), .val (.ref a1128), .unset, .unset] []) _
    refine w_iload (pc' := 57) X1143 hx hby at_55 rfl rfl ?_
    refine w_iconst (pc' := 58) (v := 2) X1143 hx hby at_57 rfl rfl ?_
    refine w_icmpYes (pc' := 67) X1143 hx hby at_58 (XT.ii_le_t (by decide)) (by decide) ?_
    have f1150 : Arv Z h1143 a1128 kc1128 .char (2 : Int32) [(.int cv0), (.int cv1)] (.int (0 : Int32)) := by have z := f1149; rw [hr0, hr1] at z; exact z
    obtain ⟨T1151, h1151, X1151, e1151, E1151, A1151, D1151, -, st1151⟩ := newO X1143 hx hZ hown (hw _ (List.mem_of_getElem? (i := 2) rfl)) (hw _ (List.mem_of_getElem? (i := 3) rfl)) (hw _ (List.mem_of_getElem? (i := 4) rfl)) e1143 (g := (mkF m 67 #[.val (.int ln), .val (.int xa), .val (.int xb), .val (.int xc), .val (.int (2 : Int32)), .val (.int cv0), .val (.int cv1), .val (.int cv2), .val (.ref a1128), .unset, .unset] [])) rfl (hb hby at_67) (by decide) (by decide)
    obtain ⟨a1151, g1151⟩ : ∃ z, z = h1143.size := ⟨_, rfl⟩
    rw [← g1151] at A1151 D1151 st1151
    have ne1152 : a1128 ≠ a1151 := by rw [g1151]; exact Nat.ne_of_lt f1150.lt
    have ge1153 : h0.size ≤ a1151 := Nat.le_trans Z1146 (Nat.le_of_eq g1151.symm)
    have hk1155 := Nat.le_trans hk1147 E1151.1
    have f1156 : Arv Z h1151 a1128 kc1128 .char (2 : Int32) [(.int cv0), (.int cv1)] (.int (0 : Int32)) := f1150.ext E1151
    have Old1157 := Old1145.ext E1151
    have Z1158 := Nat.le_trans Z1146 E1151.1
    have Kp1159 : Keep h0 h1151 [] := Kp1148.ext E1151
    have f1160 : Fld Z h1151 a1151 "java/lang/String" "coder" "B" (.int (0 : Int32)) := D1151 (Or.inr (hw _ (List.mem_of_getElem? (i := 18) rfl))) (ty := .byte) (by decide)
    have f1161 : Fld Z h1151 a1151 "java/lang/String" "value" "[B" .null := D1151 (Or.inr (hw _ (List.mem_of_getElem? (i := 17) rfl))) (ty := (.array .byte)) (by decide)
    refine Rch.st (fun _ k => st1151 _ k) ?_
    show Rch p e below T1151 (mkF m 70 #[.val (.int ln), .val (.int xa), .val (.int xb), .val (.int xc), .val (.int (2 : Int32)), .val (.int cv0), .val (.int cv1), .val (.int cv2), .val (.ref a1128), .unset, .unset] [(.ref a1151)]) _
    refine w_dup (pc' := 71) X1151 hx hby at_70 rfl rfl ?_
    refine w_aload (pc' := 73) X1151 hx hby at_71 rfl rfl rfl ?_
    by_cases hb1162 : (255 : Int32) < cv0
    · skip
      obtain ⟨_, _, ⟨T1163, L1163, k1163, n1163⟩, -, X1163, ⟨Lc1163, hQ1163, l1163, y1163, z1163⟩, st1163⟩ := X1151.specialBack hx (y := (⟨"java/lang/String", "<init>", "([C)V"⟩ : MethodName)) rfl hown (mvT hZ (hw _ (List.mem_of_getElem? (i := 5) rfl))) (mvT hZ (hw _ (List.mem_of_getElem? (i := 6) rfl))) (mvT hZ (hw _ (List.mem_of_getElem? (i := 7) rfl))) (by decide) (backOf (W := 1) (rm_init1_2_0 l Z a0 hw [] G1 a1151 a1128 kc1128 cv0 cv1 h1151 h0.size Z1158 (O2) (P5) (SA) (SH) (SL) A1151 f1160 f1161 f1156 (ge1153) ((Ne.symm ne1152)) (hb1162) (hn0) (hm0) Old1157) hZ (hw _ (List.mem_of_getElem? (i := 7) rfl)) (hw _ (List.mem_of_getElem? (i := 4) rfl)) (by decide) (by decide)) (g := (mkF m 73 #[.val (.int ln), .val (.int xa), .val (.int xb), .val (.int xc), .val (.int (2 : Int32)), .val (.int cv0), .val (.int cv1), .val (.int cv2), .val (.ref a1128), .unset, .unset] [(.ref a1128), (.ref a1151), (.ref a1151)])) rfl (by rw [hml]; rfl) (Steps.refl _) (a := a1151) (argsL := [(.ref a1128)]) (rest := [(.ref a1151)]) (lenOf pd___C_V rfl) rfl (by show 2 * 0 + _ ≤ _; exact Nat.le_of_eq rfl) (hb hby at_73) (fun _ _ => ⟨rfl, e1151, (by decide : 2 + 2 ≤ _), (by decide : 6 + 6 ≤ _)⟩)
      dsimp only [Pt.U, Pt.locs, Pt.cells, Pt.slots] at X1163 l1163 y1163 z1163 st1163 hQ1163
      subst l1163 y1163 z1163
      obtain ⟨t_1163, kt_1163, rfl, NQ1163, K1163, pq1163_0, fq1163_0, fq1163_1, fq1163_2⟩ := hQ1163
      have N1164 := Fr.app N1144 NQ1163
      have ne1165 : a1128 ≠ t_1163 := Nat.ne_of_lt (Nat.lt_of_lt_of_le f1156.lt pq1163_0)
      have ne1166 : a1151 ≠ t_1163 := Nat.ne_of_lt (Nat.lt_of_lt_of_le A1151.lt pq1163_0)
      have ge1167 : h0.size ≤ t_1163 := Nat.le_trans Z1158 pq1163_0
      have f1168 : Arv Z T1163.heap a1128 kc1128 .char (2 : Int32) [(.int cv0), (.int cv1)] (.int (0 : Int32)) := f1156.keep K1163 (ninS ne1152 nin0)
      have f1169 : Exa Z T1163.heap a1151 "java/lang/String" := A1151.keep K1163
      have Old1170 := Old1157.keep K1163 (allS ge1153 all0)
      have Kp1171 : Keep h0 T1163.heap [] := Kp1159.trans K1163 (allS (Or.inr (Nat.le_trans Kp1148.1 (Nat.le_of_eq g1151.symm))) all0)
      have Z1172 := Nat.le_trans Z1158 K1163.1
      have hk1173 := Nat.le_trans hk1155 K1163.1
      refine Rch.st (fun _ k => st1163.trans k) ?_
      show Rch p e below T1163 (mkF m 76 #[.val (.int ln), .val (.int xa), .val (.int xb), .val (.int xc), .val (.int (2 : Int32)), .val (.int cv0), .val (.int cv1), .val (.int cv2), .val (.ref a1128), .unset, .unset] [(.ref a1151)]) _
      refine w_astore (pc' := 78) (l' := #[.val (.int ln), .val (.int xa), .val (.int xb), .val (.int xc), .val (.int (2 : Int32)), .val (.int cv0), .val (.int cv1), .val (.int cv2), .val (.ref a1128), .val (.ref a1151), .unset]) X1163 hx hby at_76 rfl rfl rfl ?_
      have J : ∀ (ex : Int32), (ex = own_iq cv0) →  Rch p e below T1163 (mkF m 104 #[.val (.int ln), .val (.int xa), .val (.int xb), .val (.int xc), .val (.int (2 : Int32)), .val (.int cv0), .val (.int cv1), .val (.int cv2), .val (.ref a1128), .val (.ref a1151), .val (.int ex)] []) (FinW s (Q_rm_law Z G1 ln xa xb xc h0 n0) 24 3200) := by
        intro ex hex
        refine w_aload (pc' := 106) X1163 hx hby at_104 rfl rfl rfl ?_
        obtain ⟨_, _, ⟨T1174, L1174, k1174, n1174⟩, -, X1174, hSx1174, hgx1174, ⟨Lc1174, hQ1174, l1174, y1174, z1174⟩, st1174⟩ := callSS X1163 hx (y := (⟨"com/example/alcance/alcance/Identifiers", "isQuoted", "(Ljava/lang/String;)Z"⟩ : MethodName)) hown (mvT hZ (hw _ (List.mem_of_getElem? (i := 23) rfl))) (mvT hZ (hw _ (List.mem_of_getElem? (i := 24) rfl))) (mvT hZ (hw _ (List.mem_of_getElem? (i := 25) rfl))) (mvT hZ (hw _ (List.mem_of_getElem? (i := 26) rfl))) (by decide) (backOfI (Ts := ([] : List String)) (W := 0) (rm_iq_U l Z a0 hw [] G1 a1151 t_1163 kt_1163 (4 : Int32) ([(.int (own_lo cv0)), (.int (own_hi cv0)), (.int (own_lo cv1)), (.int (own_hi cv1))]) (.int (0 : Int32)) cv0 T1163.heap h0.size Z1172 (O2) (P5) (SA) (SH) (SL) f1169 fq1163_0 fq1163_1 fq1163_2 (by decide) (by decide) (by decide) (rfl) (rfl) (hn0) (hm0) (H54) (H59) (hcw) Old1170) hZ hI (hw _ (List.mem_of_getElem? (i := 26) rfl)) (hw _ (List.mem_of_getElem? (i := 25) rfl)) (by decide) (by decide)) (g := (mkF m 106 #[.val (.int ln), .val (.int xa), .val (.int xb), .val (.int xc), .val (.int (2 : Int32)), .val (.int cv0), .val (.int cv1), .val (.int cv2), .val (.ref a1128), .val (.ref a1151), .val (.int ex)] [(.ref a1151)])) rfl (by rw [hml]; rfl) (argsL := [(.ref a1151)]) (rest := []) (lenOf pd__Ljava_lang_String__Z rfl) rfl (by show 2 * 0 + _ ≤ _; exact Nat.le_of_eq rfl) (hb hby at_106) (fun _ _ => ⟨rfl, (rfl : T1163.heap = T1163.heap), (by decide : 4 + 4 ≤ _), (by decide : 12 + 16 ≤ _)⟩)
        dsimp only [Pt.U, Pt.locs, Pt.cells, Pt.slots] at X1174 l1174 y1174 z1174 st1174 hQ1174 hSx1174 hgx1174
        subst l1174 y1174 z1174
        have hS1174 := foldS hS0 (by rw [(rfl : T1163.heap = T1163.heap)]; exact hk1173) hSx1174 hgx1174
        have hk1174 : T1174.heap.size ≤ T1174.heap.size := Nat.le_refl _
        have hZ1174 : Z.Warmed39 (s.setVm T1174.vm).vm := State.Warmed39.trans (t := s.setVm s.vm) hZ hSx1174.1
        have hown1174 : (s.setVm T1174.vm).vm.findClass "com/example/alcance/alcance/IdentifiersIsQuotedPinLaw" = some m.cls := by rw [show (s.setVm T1174.vm).vm = T1174.vm from rfl, hSx1174.1.alike.findClass]; exact hown
        have X1174w : Stand p l e room_1 (s.setVm T1174.vm) m _ below meth c T1174 _ _ _ := X1174
        obtain ⟨rfl, NQ1174, K1174, IQ1174⟩ := hQ1174
        have N1175 := Fr.app N1164 NQ1174
        have f1176 : Arv Z T1174.heap a1128 kc1128 .char (2 : Int32) [(.int cv0), (.int cv1)] (.int (0 : Int32)) := f1168.keep K1174 nin0
        have f1177 : Exa Z T1174.heap a1151 "java/lang/String" := f1169.keep K1174
        have f1178 : Fld Z T1174.heap a1151 "java/lang/String" "coder" "B" (.int (1 : Int32)) := fq1163_0.keep K1174 nin0
        have f1179 : Fld Z T1174.heap a1151 "java/lang/String" "value" "[B" (.ref t_1163) := fq1163_1.keep K1174 nin0
        have f1180 : Arv Z T1174.heap t_1163 kt_1163 .byte (4 : Int32) [(.int (own_lo cv0)), (.int (own_hi cv0)), (.int (own_lo cv1)), (.int (own_hi cv1))] (.int (0 : Int32)) := fq1163_2.keep K1174 nin0
        have Old1181 := Old1170.keep K1174 all0
        have Kp1182 : Keep h0 T1174.heap [] := Kp1171.trans K1174 all0
        have Z1183 := Nat.le_trans Z1172 K1174.1
        refine Rch.st (fun _ k => st1174.trans k) ?_
        show Rch p e below T1174 (mkF m 109 #[.val (.int ln), .val (.int xa), .val (.int xb), .val (.int xc), .val (.int (2 : Int32)), .val (.int cv0), .val (.int cv1), .val (.int cv2), .val (.ref a1128), .val (.ref a1151), .val (.int ex)] [(.int (own_iq cv0))]) _
        refine w_iload (pc' := 111) X1174w hx hby at_109 rfl rfl ?_
        refine w_icmpNo (pc' := 114) X1174w hx hby at_111 (XT.ii_ne_f (hex.symm)) rfl ?_
        refine w_iconst (pc' := 115) (v := 1) X1174w hx hby at_114 rfl rfl ?_
        refine w_goto (pc' := 119) X1174w hx hby at_115 (by decide) ?_
        exact Rch.retVW X1174w hx hS1174 (by rw [(rfl : T1174.heap = T1174.heap)]; exact hk1174) Bd.returns rfl (Or.inl ⟨rfl, by simp, _, rfl⟩) (hb hby at_119) (by rw [(rfl : T1174.heap = T1174.heap)]; exact ⟨rfl, (own_Fr Z0 N1175), Kp1182, own_ib_mono (own_ib (s := s.setVm T1174.vm) IQ1174 X1174w.warmed) (by decide)⟩) (by decide) (by decide)
      refine w_iload (pc' := 80) X1163 hx hby at_78 rfl rfl ?_
      refine w_ifNo (pc' := 83) X1163 hx hby at_80 (XT.i0_le_f (by decide)) rfl ?_
      refine w_iload (pc' := 85) X1163 hx hby at_83 rfl rfl ?_
      refine w_bipush (pc' := 87) (v := 34) X1163 hx hby at_85 rfl rfl ?_
      by_cases c1184 : cv0 = (34 : Int32)
      · skip
        refine w_icmpYes (pc' := 97) X1163 hx hby at_87 (XT.ii_eq_t (c1184)) (by decide) ?_
        refine w_iconst (pc' := 98) (v := 1) X1163 hx hby at_97 rfl rfl ?_
        refine w_goto (pc' := 102) X1163 hx hby at_98 (by decide) ?_
        refine w_istore (pc' := 104) (l' := #[.val (.int ln), .val (.int xa), .val (.int xb), .val (.int xc), .val (.int (2 : Int32)), .val (.int cv0), .val (.int cv1), .val (.int cv2), .val (.ref a1128), .val (.ref a1151), .val (.int (1 : Int32))]) X1163 hx hby at_102 rfl rfl ?_
        exact J _ (by simp [own_iq, c1184])
      · skip
        refine w_icmpNo (pc' := 90) X1163 hx hby at_87 (XT.ii_eq_f (c1184)) rfl ?_
        refine w_iload (pc' := 92) X1163 hx hby at_90 rfl rfl ?_
        refine w_bipush (pc' := 94) (v := 96) X1163 hx hby at_92 rfl rfl ?_
        by_cases c1185 : cv0 = (96 : Int32)
        · skip
          refine w_icmpNo (pc' := 97) X1163 hx hby at_94 (XT.ii_ne_f (c1185)) rfl ?_
          refine w_iconst (pc' := 98) (v := 1) X1163 hx hby at_97 rfl rfl ?_
          refine w_goto (pc' := 102) X1163 hx hby at_98 (by decide) ?_
          refine w_istore (pc' := 104) (l' := #[.val (.int ln), .val (.int xa), .val (.int xb), .val (.int xc), .val (.int (2 : Int32)), .val (.int cv0), .val (.int cv1), .val (.int cv2), .val (.ref a1128), .val (.ref a1151), .val (.int (1 : Int32))]) X1163 hx hby at_102 rfl rfl ?_
          exact J _ (by simp [own_iq, c1184, c1185])
        · skip
          refine w_icmpYes (pc' := 101) X1163 hx hby at_94 (XT.ii_ne_t (c1185)) (by decide) ?_
          refine w_iconst (pc' := 102) (v := 0) X1163 hx hby at_101 rfl rfl ?_
          refine w_istore (pc' := 104) (l' := #[.val (.int ln), .val (.int xa), .val (.int xb), .val (.int xc), .val (.int (2 : Int32)), .val (.int cv0), .val (.int cv1), .val (.int cv2), .val (.ref a1128), .val (.ref a1151), .val (.int (0 : Int32))]) X1163 hx hby at_102 rfl rfl ?_
          exact J _ (by simp [own_iq, c1184, c1185])
    · skip
      by_cases hb1186 : (255 : Int32) < cv1
      · skip
        obtain ⟨_, _, ⟨T1187, L1187, k1187, n1187⟩, -, X1187, ⟨Lc1187, hQ1187, l1187, y1187, z1187⟩, st1187⟩ := X1151.specialBack hx (y := (⟨"java/lang/String", "<init>", "([C)V"⟩ : MethodName)) rfl hown (mvT hZ (hw _ (List.mem_of_getElem? (i := 5) rfl))) (mvT hZ (hw _ (List.mem_of_getElem? (i := 6) rfl))) (mvT hZ (hw _ (List.mem_of_getElem? (i := 7) rfl))) (by decide) (backOf (W := 1) (rm_init1_2_1 l Z a0 hw [] G1 a1151 a1128 kc1128 cv0 cv1 h1151 h0.size Z1158 (O2) (P5) (SA) (SH) (SL) A1151 f1160 f1161 f1156 (ge1153) ((Ne.symm ne1152)) (hb1162) (hb1186) (hn1) (hm1) Old1157) hZ (hw _ (List.mem_of_getElem? (i := 7) rfl)) (hw _ (List.mem_of_getElem? (i := 4) rfl)) (by decide) (by decide)) (g := (mkF m 73 #[.val (.int ln), .val (.int xa), .val (.int xb), .val (.int xc), .val (.int (2 : Int32)), .val (.int cv0), .val (.int cv1), .val (.int cv2), .val (.ref a1128), .unset, .unset] [(.ref a1128), (.ref a1151), (.ref a1151)])) rfl (by rw [hml]; rfl) (Steps.refl _) (a := a1151) (argsL := [(.ref a1128)]) (rest := [(.ref a1151)]) (lenOf pd___C_V rfl) rfl (by show 2 * 0 + _ ≤ _; exact Nat.le_of_eq rfl) (hb hby at_73) (fun _ _ => ⟨rfl, e1151, (by decide : 2 + 2 ≤ _), (by decide : 6 + 6 ≤ _)⟩)
        dsimp only [Pt.U, Pt.locs, Pt.cells, Pt.slots] at X1187 l1187 y1187 z1187 st1187 hQ1187
        subst l1187 y1187 z1187
        obtain ⟨t_1187, kt_1187, rfl, NQ1187, K1187, pq1187_0, fq1187_0, fq1187_1, fq1187_2⟩ := hQ1187
        have N1188 := Fr.app N1144 NQ1187
        have ne1189 : a1128 ≠ t_1187 := Nat.ne_of_lt (Nat.lt_of_lt_of_le f1156.lt pq1187_0)
        have ne1190 : a1151 ≠ t_1187 := Nat.ne_of_lt (Nat.lt_of_lt_of_le A1151.lt pq1187_0)
        have ge1191 : h0.size ≤ t_1187 := Nat.le_trans Z1158 pq1187_0
        have f1192 : Arv Z T1187.heap a1128 kc1128 .char (2 : Int32) [(.int cv0), (.int cv1)] (.int (0 : Int32)) := f1156.keep K1187 (ninS ne1152 nin0)
        have f1193 : Exa Z T1187.heap a1151 "java/lang/String" := A1151.keep K1187
        have Old1194 := Old1157.keep K1187 (allS ge1153 all0)
        have Kp1195 : Keep h0 T1187.heap [] := Kp1159.trans K1187 (allS (Or.inr (Nat.le_trans Kp1148.1 (Nat.le_of_eq g1151.symm))) all0)
        have Z1196 := Nat.le_trans Z1158 K1187.1
        have hk1197 := Nat.le_trans hk1155 K1187.1
        refine Rch.st (fun _ k => st1187.trans k) ?_
        show Rch p e below T1187 (mkF m 76 #[.val (.int ln), .val (.int xa), .val (.int xb), .val (.int xc), .val (.int (2 : Int32)), .val (.int cv0), .val (.int cv1), .val (.int cv2), .val (.ref a1128), .unset, .unset] [(.ref a1151)]) _
        refine w_astore (pc' := 78) (l' := #[.val (.int ln), .val (.int xa), .val (.int xb), .val (.int xc), .val (.int (2 : Int32)), .val (.int cv0), .val (.int cv1), .val (.int cv2), .val (.ref a1128), .val (.ref a1151), .unset]) X1187 hx hby at_76 rfl rfl rfl ?_
        have J : ∀ (ex : Int32), (ex = own_iq cv0) →  Rch p e below T1187 (mkF m 104 #[.val (.int ln), .val (.int xa), .val (.int xb), .val (.int xc), .val (.int (2 : Int32)), .val (.int cv0), .val (.int cv1), .val (.int cv2), .val (.ref a1128), .val (.ref a1151), .val (.int ex)] []) (FinW s (Q_rm_law Z G1 ln xa xb xc h0 n0) 24 3200) := by
          intro ex hex
          refine w_aload (pc' := 106) X1187 hx hby at_104 rfl rfl rfl ?_
          obtain ⟨_, _, ⟨T1198, L1198, k1198, n1198⟩, -, X1198, hSx1198, hgx1198, ⟨Lc1198, hQ1198, l1198, y1198, z1198⟩, st1198⟩ := callSS X1187 hx (y := (⟨"com/example/alcance/alcance/Identifiers", "isQuoted", "(Ljava/lang/String;)Z"⟩ : MethodName)) hown (mvT hZ (hw _ (List.mem_of_getElem? (i := 23) rfl))) (mvT hZ (hw _ (List.mem_of_getElem? (i := 24) rfl))) (mvT hZ (hw _ (List.mem_of_getElem? (i := 25) rfl))) (mvT hZ (hw _ (List.mem_of_getElem? (i := 26) rfl))) (by decide) (backOfI (Ts := ([] : List String)) (W := 0) (rm_iq_U l Z a0 hw [] G1 a1151 t_1187 kt_1187 (4 : Int32) ([(.int (own_lo cv0)), (.int (own_hi cv0)), (.int (own_lo cv1)), (.int (own_hi cv1))]) (.int (0 : Int32)) cv0 T1187.heap h0.size Z1196 (O2) (P5) (SA) (SH) (SL) f1193 fq1187_0 fq1187_1 fq1187_2 (by decide) (by decide) (by decide) (rfl) (rfl) (hn0) (hm0) (H54) (H59) (hcw) Old1194) hZ hI (hw _ (List.mem_of_getElem? (i := 26) rfl)) (hw _ (List.mem_of_getElem? (i := 25) rfl)) (by decide) (by decide)) (g := (mkF m 106 #[.val (.int ln), .val (.int xa), .val (.int xb), .val (.int xc), .val (.int (2 : Int32)), .val (.int cv0), .val (.int cv1), .val (.int cv2), .val (.ref a1128), .val (.ref a1151), .val (.int ex)] [(.ref a1151)])) rfl (by rw [hml]; rfl) (argsL := [(.ref a1151)]) (rest := []) (lenOf pd__Ljava_lang_String__Z rfl) rfl (by show 2 * 0 + _ ≤ _; exact Nat.le_of_eq rfl) (hb hby at_106) (fun _ _ => ⟨rfl, (rfl : T1187.heap = T1187.heap), (by decide : 4 + 4 ≤ _), (by decide : 12 + 16 ≤ _)⟩)
          dsimp only [Pt.U, Pt.locs, Pt.cells, Pt.slots] at X1198 l1198 y1198 z1198 st1198 hQ1198 hSx1198 hgx1198
          subst l1198 y1198 z1198
          have hS1198 := foldS hS0 (by rw [(rfl : T1187.heap = T1187.heap)]; exact hk1197) hSx1198 hgx1198
          have hk1198 : T1198.heap.size ≤ T1198.heap.size := Nat.le_refl _
          have hZ1198 : Z.Warmed39 (s.setVm T1198.vm).vm := State.Warmed39.trans (t := s.setVm s.vm) hZ hSx1198.1
          have hown1198 : (s.setVm T1198.vm).vm.findClass "com/example/alcance/alcance/IdentifiersIsQuotedPinLaw" = some m.cls := by rw [show (s.setVm T1198.vm).vm = T1198.vm from rfl, hSx1198.1.alike.findClass]; exact hown
          have X1198w : Stand p l e room_1 (s.setVm T1198.vm) m _ below meth c T1198 _ _ _ := X1198
          obtain ⟨rfl, NQ1198, K1198, IQ1198⟩ := hQ1198
          have N1199 := Fr.app N1188 NQ1198
          have f1200 : Arv Z T1198.heap a1128 kc1128 .char (2 : Int32) [(.int cv0), (.int cv1)] (.int (0 : Int32)) := f1192.keep K1198 nin0
          have f1201 : Exa Z T1198.heap a1151 "java/lang/String" := f1193.keep K1198
          have f1202 : Fld Z T1198.heap a1151 "java/lang/String" "coder" "B" (.int (1 : Int32)) := fq1187_0.keep K1198 nin0
          have f1203 : Fld Z T1198.heap a1151 "java/lang/String" "value" "[B" (.ref t_1187) := fq1187_1.keep K1198 nin0
          have f1204 : Arv Z T1198.heap t_1187 kt_1187 .byte (4 : Int32) [(.int (own_lo cv0)), (.int (own_hi cv0)), (.int (own_lo cv1)), (.int (own_hi cv1))] (.int (0 : Int32)) := fq1187_2.keep K1198 nin0
          have Old1205 := Old1194.keep K1198 all0
          have Kp1206 : Keep h0 T1198.heap [] := Kp1195.trans K1198 all0
          have Z1207 := Nat.le_trans Z1196 K1198.1
          refine Rch.st (fun _ k => st1198.trans k) ?_
          show Rch p e below T1198 (mkF m 109 #[.val (.int ln), .val (.int xa), .val (.int xb), .val (.int xc), .val (.int (2 : Int32)), .val (.int cv0), .val (.int cv1), .val (.int cv2), .val (.ref a1128), .val (.ref a1151), .val (.int ex)] [(.int (own_iq cv0))]) _
          refine w_iload (pc' := 111) X1198w hx hby at_109 rfl rfl ?_
          refine w_icmpNo (pc' := 114) X1198w hx hby at_111 (XT.ii_ne_f (hex.symm)) rfl ?_
          refine w_iconst (pc' := 115) (v := 1) X1198w hx hby at_114 rfl rfl ?_
          refine w_goto (pc' := 119) X1198w hx hby at_115 (by decide) ?_
          exact Rch.retVW X1198w hx hS1198 (by rw [(rfl : T1198.heap = T1198.heap)]; exact hk1198) Bd.returns rfl (Or.inl ⟨rfl, by simp, _, rfl⟩) (hb hby at_119) (by rw [(rfl : T1198.heap = T1198.heap)]; exact ⟨rfl, (own_Fr Z0 N1199), Kp1206, own_ib_mono (own_ib (s := s.setVm T1198.vm) IQ1198 X1198w.warmed) (by decide)⟩) (by decide) (by decide)
        refine w_iload (pc' := 80) X1187 hx hby at_78 rfl rfl ?_
        refine w_ifNo (pc' := 83) X1187 hx hby at_80 (XT.i0_le_f (by decide)) rfl ?_
        refine w_iload (pc' := 85) X1187 hx hby at_83 rfl rfl ?_
        refine w_bipush (pc' := 87) (v := 34) X1187 hx hby at_85 rfl rfl ?_
        by_cases c1208 : cv0 = (34 : Int32)
        · skip
          refine w_icmpYes (pc' := 97) X1187 hx hby at_87 (XT.ii_eq_t (c1208)) (by decide) ?_
          refine w_iconst (pc' := 98) (v := 1) X1187 hx hby at_97 rfl rfl ?_
          refine w_goto (pc' := 102) X1187 hx hby at_98 (by decide) ?_
          refine w_istore (pc' := 104) (l' := #[.val (.int ln), .val (.int xa), .val (.int xb), .val (.int xc), .val (.int (2 : Int32)), .val (.int cv0), .val (.int cv1), .val (.int cv2), .val (.ref a1128), .val (.ref a1151), .val (.int (1 : Int32))]) X1187 hx hby at_102 rfl rfl ?_
          exact J _ (by simp [own_iq, c1208])
        · skip
          refine w_icmpNo (pc' := 90) X1187 hx hby at_87 (XT.ii_eq_f (c1208)) rfl ?_
          refine w_iload (pc' := 92) X1187 hx hby at_90 rfl rfl ?_
          refine w_bipush (pc' := 94) (v := 96) X1187 hx hby at_92 rfl rfl ?_
          by_cases c1209 : cv0 = (96 : Int32)
          · skip
            refine w_icmpNo (pc' := 97) X1187 hx hby at_94 (XT.ii_ne_f (c1209)) rfl ?_
            refine w_iconst (pc' := 98) (v := 1) X1187 hx hby at_97 rfl rfl ?_
            refine w_goto (pc' := 102) X1187 hx hby at_98 (by decide) ?_
            refine w_istore (pc' := 104) (l' := #[.val (.int ln), .val (.int xa), .val (.int xb), .val (.int xc), .val (.int (2 : Int32)), .val (.int cv0), .val (.int cv1), .val (.int cv2), .val (.ref a1128), .val (.ref a1151), .val (.int (1 : Int32))]) X1187 hx hby at_102 rfl rfl ?_
            exact J _ (by simp [own_iq, c1208, c1209])
          · skip
            refine w_icmpYes (pc' := 101) X1187 hx hby at_94 (XT.ii_ne_t (c1209)) (by decide) ?_
            refine w_iconst (pc' := 102) (v := 0) X1187 hx hby at_101 rfl rfl ?_
            refine w_istore (pc' := 104) (l' := #[.val (.int ln), .val (.int xa), .val (.int xb), .val (.int xc), .val (.int (2 : Int32)), .val (.int cv0), .val (.int cv1), .val (.int cv2), .val (.ref a1128), .val (.ref a1151), .val (.int (0 : Int32))]) X1187 hx hby at_102 rfl rfl ?_
            exact J _ (by simp [own_iq, c1208, c1209])
      · skip
        obtain ⟨_, _, ⟨T1210, L1210, k1210, n1210⟩, -, X1210, ⟨Lc1210, hQ1210, l1210, y1210, z1210⟩, st1210⟩ := X1151.specialBack hx (y := (⟨"java/lang/String", "<init>", "([C)V"⟩ : MethodName)) rfl hown (mvT hZ (hw _ (List.mem_of_getElem? (i := 5) rfl))) (mvT hZ (hw _ (List.mem_of_getElem? (i := 6) rfl))) (mvT hZ (hw _ (List.mem_of_getElem? (i := 7) rfl))) (by decide) (backOf (W := 1) (rm_init1_2 l Z a0 hw [] G1 a1151 a1128 kc1128 cv0 cv1 h1151 h0.size Z1158 (O2) (P5) A1151 f1160 f1161 f1156 (ge1153) ((Ne.symm ne1152)) (hb1162) (hb1186) Old1157) hZ (hw _ (List.mem_of_getElem? (i := 7) rfl)) (hw _ (List.mem_of_getElem? (i := 4) rfl)) (by decide) (by decide)) (g := (mkF m 73 #[.val (.int ln), .val (.int xa), .val (.int xb), .val (.int xc), .val (.int (2 : Int32)), .val (.int cv0), .val (.int cv1), .val (.int cv2), .val (.ref a1128), .unset, .unset] [(.ref a1128), (.ref a1151), (.ref a1151)])) rfl (by rw [hml]; rfl) (Steps.refl _) (a := a1151) (argsL := [(.ref a1128)]) (rest := [(.ref a1151)]) (lenOf pd___C_V rfl) rfl (by show 2 * 0 + _ ≤ _; exact Nat.le_of_eq rfl) (hb hby at_73) (fun _ _ => ⟨rfl, e1151, (by decide : 2 + 1 ≤ _), (by decide : 6 + 2 ≤ _)⟩)
        dsimp only [Pt.U, Pt.locs, Pt.cells, Pt.slots] at X1210 l1210 y1210 z1210 st1210 hQ1210
        subst l1210 y1210 z1210
        obtain ⟨t_1210, kt_1210, rfl, NQ1210, K1210, pq1210_0, fq1210_0, fq1210_1, fq1210_2⟩ := hQ1210
        have N1211 := Fr.app N1144 NQ1210
        have ne1212 : a1128 ≠ t_1210 := Nat.ne_of_lt (Nat.lt_of_lt_of_le f1156.lt pq1210_0)
        have ne1213 : a1151 ≠ t_1210 := Nat.ne_of_lt (Nat.lt_of_lt_of_le A1151.lt pq1210_0)
        have ge1214 : h0.size ≤ t_1210 := Nat.le_trans Z1158 pq1210_0
        have f1215 : Arv Z T1210.heap a1128 kc1128 .char (2 : Int32) [(.int cv0), (.int cv1)] (.int (0 : Int32)) := f1156.keep K1210 (ninS ne1152 nin0)
        have f1216 : Exa Z T1210.heap a1151 "java/lang/String" := A1151.keep K1210
        have Old1217 := Old1157.keep K1210 (allS ge1153 all0)
        have Kp1218 : Keep h0 T1210.heap [] := Kp1159.trans K1210 (allS (Or.inr (Nat.le_trans Kp1148.1 (Nat.le_of_eq g1151.symm))) all0)
        have Z1219 := Nat.le_trans Z1158 K1210.1
        have hk1220 := Nat.le_trans hk1155 K1210.1
        refine Rch.st (fun _ k => st1210.trans k) ?_
        show Rch p e below T1210 (mkF m 76 #[.val (.int ln), .val (.int xa), .val (.int xb), .val (.int xc), .val (.int (2 : Int32)), .val (.int cv0), .val (.int cv1), .val (.int cv2), .val (.ref a1128), .unset, .unset] [(.ref a1151)]) _
        have hb0 := hb1162
        refine w_astore (pc' := 78) (l' := #[.val (.int ln), .val (.int xa), .val (.int xb), .val (.int xc), .val (.int (2 : Int32)), .val (.int cv0), .val (.int cv1), .val (.int cv2), .val (.ref a1128), .val (.ref a1151), .unset]) X1210 hx hby at_76 rfl rfl rfl ?_
        have J : ∀ (ex : Int32), (ex = own_iq cv0) →  Rch p e below T1210 (mkF m 104 #[.val (.int ln), .val (.int xa), .val (.int xb), .val (.int xc), .val (.int (2 : Int32)), .val (.int cv0), .val (.int cv1), .val (.int cv2), .val (.ref a1128), .val (.ref a1151), .val (.int ex)] []) (FinW s (Q_rm_law Z G1 ln xa xb xc h0 n0) 24 3200) := by
          intro ex hex
          refine w_aload (pc' := 106) X1210 hx hby at_104 rfl rfl rfl ?_
          obtain ⟨_, _, ⟨T1221, L1221, k1221, n1221⟩, -, X1221, hSx1221, hgx1221, ⟨Lc1221, hQ1221, l1221, y1221, z1221⟩, st1221⟩ := callSS X1210 hx (y := (⟨"com/example/alcance/alcance/Identifiers", "isQuoted", "(Ljava/lang/String;)Z"⟩ : MethodName)) hown (mvT hZ (hw _ (List.mem_of_getElem? (i := 23) rfl))) (mvT hZ (hw _ (List.mem_of_getElem? (i := 24) rfl))) (mvT hZ (hw _ (List.mem_of_getElem? (i := 25) rfl))) (mvT hZ (hw _ (List.mem_of_getElem? (i := 26) rfl))) (by decide) (backOfI (Ts := ([] : List String)) (W := 0) (rm_iq_L l Z a0 hw [] G1 a1151 t_1210 kt_1210 (2 : Int32) ([(.int (own_by cv0)), (.int (own_by cv1))]) (.int (0 : Int32)) cv0 T1210.heap h0.size Z1219 (O2) (P5) f1216 fq1210_0 fq1210_1 fq1210_2 (by decide) (by decide) (rfl) (hn0) (hb0) (H54) (H59) (hcw) Old1217) hZ hI (hw _ (List.mem_of_getElem? (i := 26) rfl)) (hw _ (List.mem_of_getElem? (i := 25) rfl)) (by decide) (by decide)) (g := (mkF m 106 #[.val (.int ln), .val (.int xa), .val (.int xb), .val (.int xc), .val (.int (2 : Int32)), .val (.int cv0), .val (.int cv1), .val (.int cv2), .val (.ref a1128), .val (.ref a1151), .val (.int ex)] [(.ref a1151)])) rfl (by rw [hml]; rfl) (argsL := [(.ref a1151)]) (rest := []) (lenOf pd__Ljava_lang_String__Z rfl) rfl (by show 2 * 0 + _ ≤ _; exact Nat.le_of_eq rfl) (hb hby at_106) (fun _ _ => ⟨rfl, (rfl : T1210.heap = T1210.heap), (by decide : 3 + 4 ≤ _), (by decide : 8 + 16 ≤ _)⟩)
          dsimp only [Pt.U, Pt.locs, Pt.cells, Pt.slots] at X1221 l1221 y1221 z1221 st1221 hQ1221 hSx1221 hgx1221
          subst l1221 y1221 z1221
          have hS1221 := foldS hS0 (by rw [(rfl : T1210.heap = T1210.heap)]; exact hk1220) hSx1221 hgx1221
          have hk1221 : T1221.heap.size ≤ T1221.heap.size := Nat.le_refl _
          have hZ1221 : Z.Warmed39 (s.setVm T1221.vm).vm := State.Warmed39.trans (t := s.setVm s.vm) hZ hSx1221.1
          have hown1221 : (s.setVm T1221.vm).vm.findClass "com/example/alcance/alcance/IdentifiersIsQuotedPinLaw" = some m.cls := by rw [show (s.setVm T1221.vm).vm = T1221.vm from rfl, hSx1221.1.alike.findClass]; exact hown
          have X1221w : Stand p l e room_1 (s.setVm T1221.vm) m _ below meth c T1221 _ _ _ := X1221
          obtain ⟨rfl, NQ1221, K1221, IQ1221⟩ := hQ1221
          have N1222 := Fr.app N1211 NQ1221
          have f1223 : Arv Z T1221.heap a1128 kc1128 .char (2 : Int32) [(.int cv0), (.int cv1)] (.int (0 : Int32)) := f1215.keep K1221 nin0
          have f1224 : Exa Z T1221.heap a1151 "java/lang/String" := f1216.keep K1221
          have f1225 : Fld Z T1221.heap a1151 "java/lang/String" "coder" "B" (.int (0 : Int32)) := fq1210_0.keep K1221 nin0
          have f1226 : Fld Z T1221.heap a1151 "java/lang/String" "value" "[B" (.ref t_1210) := fq1210_1.keep K1221 nin0
          have f1227 : Arv Z T1221.heap t_1210 kt_1210 .byte (2 : Int32) [(.int (own_by cv0)), (.int (own_by cv1))] (.int (0 : Int32)) := fq1210_2.keep K1221 nin0
          have Old1228 := Old1217.keep K1221 all0
          have Kp1229 : Keep h0 T1221.heap [] := Kp1218.trans K1221 all0
          have Z1230 := Nat.le_trans Z1219 K1221.1
          refine Rch.st (fun _ k => st1221.trans k) ?_
          show Rch p e below T1221 (mkF m 109 #[.val (.int ln), .val (.int xa), .val (.int xb), .val (.int xc), .val (.int (2 : Int32)), .val (.int cv0), .val (.int cv1), .val (.int cv2), .val (.ref a1128), .val (.ref a1151), .val (.int ex)] [(.int (own_iq cv0))]) _
          refine w_iload (pc' := 111) X1221w hx hby at_109 rfl rfl ?_
          refine w_icmpNo (pc' := 114) X1221w hx hby at_111 (XT.ii_ne_f (hex.symm)) rfl ?_
          refine w_iconst (pc' := 115) (v := 1) X1221w hx hby at_114 rfl rfl ?_
          refine w_goto (pc' := 119) X1221w hx hby at_115 (by decide) ?_
          exact Rch.retVW X1221w hx hS1221 (by rw [(rfl : T1221.heap = T1221.heap)]; exact hk1221) Bd.returns rfl (Or.inl ⟨rfl, by simp, _, rfl⟩) (hb hby at_119) (by rw [(rfl : T1221.heap = T1221.heap)]; exact ⟨rfl, (own_Fr Z0 N1222), Kp1229, own_ib_mono (own_ib (s := s.setVm T1221.vm) IQ1221 X1221w.warmed) (by decide)⟩) (by decide) (by decide)
        refine w_iload (pc' := 80) X1210 hx hby at_78 rfl rfl ?_
        refine w_ifNo (pc' := 83) X1210 hx hby at_80 (XT.i0_le_f (by decide)) rfl ?_
        refine w_iload (pc' := 85) X1210 hx hby at_83 rfl rfl ?_
        refine w_bipush (pc' := 87) (v := 34) X1210 hx hby at_85 rfl rfl ?_
        by_cases c1231 : cv0 = (34 : Int32)
        · skip
          refine w_icmpYes (pc' := 97) X1210 hx hby at_87 (XT.ii_eq_t (c1231)) (by decide) ?_
          refine w_iconst (pc' := 98) (v := 1) X1210 hx hby at_97 rfl rfl ?_
          refine w_goto (pc' := 102) X1210 hx hby at_98 (by decide) ?_
          refine w_istore (pc' := 104) (l' := #[.val (.int ln), .val (.int xa), .val (.int xb), .val (.int xc), .val (.int (2 : Int32)), .val (.int cv0), .val (.int cv1), .val (.int cv2), .val (.ref a1128), .val (.ref a1151), .val (.int (1 : Int32))]) X1210 hx hby at_102 rfl rfl ?_
          exact J _ (by simp [own_iq, c1231])
        · skip
          refine w_icmpNo (pc' := 90) X1210 hx hby at_87 (XT.ii_eq_f (c1231)) rfl ?_
          refine w_iload (pc' := 92) X1210 hx hby at_90 rfl rfl ?_
          refine w_bipush (pc' := 94) (v := 96) X1210 hx hby at_92 rfl rfl ?_
          by_cases c1232 : cv0 = (96 : Int32)
          · skip
            refine w_icmpNo (pc' := 97) X1210 hx hby at_94 (XT.ii_ne_f (c1232)) rfl ?_
            refine w_iconst (pc' := 98) (v := 1) X1210 hx hby at_97 rfl rfl ?_
            refine w_goto (pc' := 102) X1210 hx hby at_98 (by decide) ?_
            refine w_istore (pc' := 104) (l' := #[.val (.int ln), .val (.int xa), .val (.int xb), .val (.int xc), .val (.int (2 : Int32)), .val (.int cv0), .val (.int cv1), .val (.int cv2), .val (.ref a1128), .val (.ref a1151), .val (.int (1 : Int32))]) X1210 hx hby at_102 rfl rfl ?_
            exact J _ (by simp [own_iq, c1231, c1232])
          · skip
            refine w_icmpYes (pc' := 101) X1210 hx hby at_94 (XT.ii_ne_t (c1232)) (by decide) ?_
            refine w_iconst (pc' := 102) (v := 0) X1210 hx hby at_101 rfl rfl ?_
            refine w_istore (pc' := 104) (l' := #[.val (.int ln), .val (.int xa), .val (.int xb), .val (.int xc), .val (.int (2 : Int32)), .val (.int cv0), .val (.int cv1), .val (.int cv2), .val (.ref a1128), .val (.ref a1151), .val (.int (0 : Int32))]) X1210 hx hby at_102 rfl rfl ?_
            exact J _ (by simp [own_iq, c1231, c1232])
  · skip
    show Rch p e below s₁ (mkF m 28 #[.val (.int ln), .val (.int xa), .val (.int xb), .val (.int xc), .val (.int (3 : Int32)), .val (.int cv0), .val (.int cv1), .val (.int cv2), .unset, .unset, .unset] [(.int (3 : Int32))]) _
    obtain ⟨T1233, h1233, kc1233, X1233, e1233, E1233, A1233, st1233⟩ := newP X0 hx hZ (hw _ (List.mem_of_getElem? (i := 1) rfl)) e0 (g := (mkF m 28 #[.val (.int ln), .val (.int xa), .val (.int xb), .val (.int xc), .val (.int (3 : Int32)), .val (.int cv0), .val (.int cv1), .val (.int cv2), .unset, .unset, .unset] [(.int (3 : Int32))])) rfl (hb hby at_28) rfl (by decide : ¬ ((3 : Int32) < (0 : Int32))) (cap := 3) (by decide : (3 : Int32).toNatClampNeg ≤ 3) (by decide) (by decide) (by decide)
    obtain ⟨a1233, g1233⟩ : ∃ z, z = h0.size := ⟨_, rfl⟩
    rw [← g1233] at A1233 st1233
    have ge1234 : h0.size ≤ a1233 := Nat.le_trans Z0f (Nat.le_of_eq g1233.symm)
    have hk1236 := Nat.le_trans hk0 E1233.1
    have Old1237 := OldF.ext E1233
    have Z1238 := Nat.le_trans Z0f E1233.1
    have Kp1239 : Keep h0 h1233 [] := K00.ext E1233
    have f1240 : Arv Z h1233 a1233 kc1233 .char (3 : Int32) [(.int (0 : Int32)), (.int (0 : Int32)), (.int (0 : Int32))] (.int (0 : Int32)) := (Arv.new A1233 (by decide : ¬ ((3 : Int32) < (0 : Int32)))).pad (pad_rep [] (.int (0 : Int32)) 3)
    refine Rch.st (fun _ k => st1233 _ k) ?_
    show Rch p e below T1233 (mkF m 30 #[.val (.int ln), .val (.int xa), .val (.int xb), .val (.int xc), .val (.int (3 : Int32)), .val (.int cv0), .val (.int cv1), .val (.int cv2), .unset, .unset, .unset] [(.ref a1233)]) _
    refine w_astore (pc' := 32) (l' := #[.val (.int ln), .val (.int xa), .val (.int xb), .val (.int xc), .val (.int (3 : Int32)), .val (.int cv0), .val (.int cv1), .val (.int cv2), .val (.ref a1233), .unset, .unset]) X1233 hx hby at_30 rfl rfl rfl ?_
    refine w_iload (pc' := 34) X1233 hx hby at_32 rfl rfl ?_
    refine w_ifNo (pc' := 37) X1233 hx hby at_34 (XT.i0_le_f (by decide)) rfl ?_
    refine w_aload (pc' := 39) X1233 hx hby at_37 rfl rfl rfl ?_
    refine w_iconst (pc' := 40) (v := 0) X1233 hx hby at_39 rfl rfl ?_
    refine w_iload (pc' := 42) X1233 hx hby at_40 rfl rfl ?_
    obtain ⟨T1241, h1241, X1241, e1241, W1241, V1241, st1241⟩ := own_stC X1233 hx hZ e1233 f1240 (j := (0 : Int32)) ⟨by decide, by decide⟩ 0 (by decide) (by decide : 0 < 3) (g := (mkF m 42 #[.val (.int ln), .val (.int xa), .val (.int xb), .val (.int xc), .val (.int (3 : Int32)), .val (.int cv0), .val (.int cv1), .val (.int cv2), .val (.ref a1233), .unset, .unset] [(.int cv0), (.int (0 : Int32)), (.ref a1233)])) rfl rfl (hb hby at_42)
    have N1242 := Fr.snoc X1241 N0f ge1234
    have Old1243 := Old1237.wr W1241 ge1234
    have Z1244 := Nat.le_trans Z1238 (Keep.of_wr W1241).1
    have hk1245 := Nat.le_trans hk1236 (Keep.of_wr W1241).1
    have Kp1246 : Keep h0 h1241 [] := Kp1239.wr W1241 (Or.inr (Nat.le_trans K00.1 (Nat.le_of_eq g1233.symm)))
    have f1247 : Arv Z h1241 a1233 kc1233 .char (3 : Int32) [(.int (nar .char cv0)), (.int (0 : Int32)), (.int (0 : Int32))] (.int (0 : Int32)) := V1241
    refine Rch.st (fun _ k => st1241 _ k) ?_
    show Rch p e below T1241 (mkF m 43 #[.val (.int ln), .val (.int xa), .val (.int xb), .val (.int xc), .val (.int (3 : Int32)), .val (.int cv0), .val (.int cv1), .val (.int cv2), .val (.ref a1233), .unset, .unset] []) _
    refine w_iload (pc' := 45) X1241 hx hby at_43 rfl rfl ?_
    refine w_iconst (pc' := 46) (v := 1) X1241 hx hby at_45 rfl rfl ?_
    refine w_icmpNo (pc' := 49) X1241 hx hby at_46 (XT.ii_le_f (by decide)) rfl ?_
    refine w_aload (pc' := 51) X1241 hx hby at_49 rfl rfl rfl ?_
    refine w_iconst (pc' := 52) (v := 1) X1241 hx hby at_51 rfl rfl ?_
    refine w_iload (pc' := 54) X1241 hx hby at_52 rfl rfl ?_
    obtain ⟨T1248, h1248, X1248, e1248, W1248, V1248, st1248⟩ := own_stC X1241 hx hZ e1241 f1247 (j := (1 : Int32)) ⟨by decide, by decide⟩ 1 (by decide) (by decide : 1 < 3) (g := (mkF m 54 #[.val (.int ln), .val (.int xa), .val (.int xb), .val (.int xc), .val (.int (3 : Int32)), .val (.int cv0), .val (.int cv1), .val (.int cv2), .val (.ref a1233), .unset, .unset] [(.int cv1), (.int (1 : Int32)), (.ref a1233)])) rfl rfl (hb hby at_54)
    have N1249 := Fr.snoc X1248 N1242 ge1234
    have Old1250 := Old1243.wr W1248 ge1234
    have Z1251 := Nat.le_trans Z1244 (Keep.of_wr W1248).1
    have hk1252 := Nat.le_trans hk1245 (Keep.of_wr W1248).1
    have Kp1253 : Keep h0 h1248 [] := Kp1246.wr W1248 (Or.inr (Nat.le_trans K00.1 (Nat.le_of_eq g1233.symm)))
    have f1254 : Arv Z h1248 a1233 kc1233 .char (3 : Int32) [(.int (nar .char cv0)), (.int (nar .char cv1)), (.int (0 : Int32))] (.int (0 : Int32)) := V1248
    refine Rch.st (fun _ k => st1248 _ k) ?_
    show Rch p e below T1248 (mkF m 55 #[.val (.int ln), .val (.int xa), .val (.int xb), .val (.int xc), .val (.int (3 : Int32)), .val (.int cv0), .val (.int cv1), .val (.int cv2), .val (.ref a1233), .unset, .unset] []) _
    refine w_iload (pc' := 57) X1248 hx hby at_55 rfl rfl ?_
    refine w_iconst (pc' := 58) (v := 2) X1248 hx hby at_57 rfl rfl ?_
    refine w_icmpNo (pc' := 61) X1248 hx hby at_58 (XT.ii_le_f (by decide)) rfl ?_
    refine w_aload (pc' := 63) X1248 hx hby at_61 rfl rfl rfl ?_
    refine w_iconst (pc' := 64) (v := 2) X1248 hx hby at_63 rfl rfl ?_
    refine w_iload (pc' := 66) X1248 hx hby at_64 rfl rfl ?_
    obtain ⟨T1255, h1255, X1255, e1255, W1255, V1255, st1255⟩ := own_stC X1248 hx hZ e1248 f1254 (j := (2 : Int32)) ⟨by decide, by decide⟩ 2 (by decide) (by decide : 2 < 3) (g := (mkF m 66 #[.val (.int ln), .val (.int xa), .val (.int xb), .val (.int xc), .val (.int (3 : Int32)), .val (.int cv0), .val (.int cv1), .val (.int cv2), .val (.ref a1233), .unset, .unset] [(.int cv2), (.int (2 : Int32)), (.ref a1233)])) rfl rfl (hb hby at_66)
    have N1256 := Fr.snoc X1255 N1249 ge1234
    have Old1257 := Old1250.wr W1255 ge1234
    have Z1258 := Nat.le_trans Z1251 (Keep.of_wr W1255).1
    have hk1259 := Nat.le_trans hk1252 (Keep.of_wr W1255).1
    have Kp1260 : Keep h0 h1255 [] := Kp1253.wr W1255 (Or.inr (Nat.le_trans K00.1 (Nat.le_of_eq g1233.symm)))
    have f1261 : Arv Z h1255 a1233 kc1233 .char (3 : Int32) [(.int (nar .char cv0)), (.int (nar .char cv1)), (.int (nar .char cv2))] (.int (0 : Int32)) := V1255
    refine Rch.st (fun _ k => st1255 _ k) ?_
    show Rch p e below T1255 (mkF m 67 #[.val (.int ln), .val (.int xa), .val (.int xb), .val (.int xc), .val (.int (3 : Int32)), .val (.int cv0), .val (.int cv1), .val (.int cv2), .val (.ref a1233), .unset, .unset] []) _
    have f1262 : Arv Z h1255 a1233 kc1233 .char (3 : Int32) [(.int cv0), (.int cv1), (.int cv2)] (.int (0 : Int32)) := by have z := f1261; rw [hr0, hr1, hr2] at z; exact z
    obtain ⟨T1263, h1263, X1263, e1263, E1263, A1263, D1263, -, st1263⟩ := newO X1255 hx hZ hown (hw _ (List.mem_of_getElem? (i := 2) rfl)) (hw _ (List.mem_of_getElem? (i := 3) rfl)) (hw _ (List.mem_of_getElem? (i := 4) rfl)) e1255 (g := (mkF m 67 #[.val (.int ln), .val (.int xa), .val (.int xb), .val (.int xc), .val (.int (3 : Int32)), .val (.int cv0), .val (.int cv1), .val (.int cv2), .val (.ref a1233), .unset, .unset] [])) rfl (hb hby at_67) (by decide) (by decide)
    obtain ⟨a1263, g1263⟩ : ∃ z, z = h1255.size := ⟨_, rfl⟩
    rw [← g1263] at A1263 D1263 st1263
    have ne1264 : a1233 ≠ a1263 := by rw [g1263]; exact Nat.ne_of_lt f1262.lt
    have ge1265 : h0.size ≤ a1263 := Nat.le_trans Z1258 (Nat.le_of_eq g1263.symm)
    have hk1267 := Nat.le_trans hk1259 E1263.1
    have f1268 : Arv Z h1263 a1233 kc1233 .char (3 : Int32) [(.int cv0), (.int cv1), (.int cv2)] (.int (0 : Int32)) := f1262.ext E1263
    have Old1269 := Old1257.ext E1263
    have Z1270 := Nat.le_trans Z1258 E1263.1
    have Kp1271 : Keep h0 h1263 [] := Kp1260.ext E1263
    have f1272 : Fld Z h1263 a1263 "java/lang/String" "coder" "B" (.int (0 : Int32)) := D1263 (Or.inr (hw _ (List.mem_of_getElem? (i := 18) rfl))) (ty := .byte) (by decide)
    have f1273 : Fld Z h1263 a1263 "java/lang/String" "value" "[B" .null := D1263 (Or.inr (hw _ (List.mem_of_getElem? (i := 17) rfl))) (ty := (.array .byte)) (by decide)
    refine Rch.st (fun _ k => st1263 _ k) ?_
    show Rch p e below T1263 (mkF m 70 #[.val (.int ln), .val (.int xa), .val (.int xb), .val (.int xc), .val (.int (3 : Int32)), .val (.int cv0), .val (.int cv1), .val (.int cv2), .val (.ref a1233), .unset, .unset] [(.ref a1263)]) _
    refine w_dup (pc' := 71) X1263 hx hby at_70 rfl rfl ?_
    refine w_aload (pc' := 73) X1263 hx hby at_71 rfl rfl rfl ?_
    by_cases hb1274 : (255 : Int32) < cv0
    · skip
      obtain ⟨_, _, ⟨T1275, L1275, k1275, n1275⟩, -, X1275, ⟨Lc1275, hQ1275, l1275, y1275, z1275⟩, st1275⟩ := X1263.specialBack hx (y := (⟨"java/lang/String", "<init>", "([C)V"⟩ : MethodName)) rfl hown (mvT hZ (hw _ (List.mem_of_getElem? (i := 5) rfl))) (mvT hZ (hw _ (List.mem_of_getElem? (i := 6) rfl))) (mvT hZ (hw _ (List.mem_of_getElem? (i := 7) rfl))) (by decide) (backOf (W := 1) (rm_init1_3_0 l Z a0 hw [] G1 a1263 a1233 kc1233 cv0 cv1 cv2 h1263 h0.size Z1270 (O2) (P5) (SA) (SH) (SL) A1263 f1272 f1273 f1268 (ge1265) ((Ne.symm ne1264)) (hb1274) (hn0) (hm0) Old1269) hZ (hw _ (List.mem_of_getElem? (i := 7) rfl)) (hw _ (List.mem_of_getElem? (i := 4) rfl)) (by decide) (by decide)) (g := (mkF m 73 #[.val (.int ln), .val (.int xa), .val (.int xb), .val (.int xc), .val (.int (3 : Int32)), .val (.int cv0), .val (.int cv1), .val (.int cv2), .val (.ref a1233), .unset, .unset] [(.ref a1233), (.ref a1263), (.ref a1263)])) rfl (by rw [hml]; rfl) (Steps.refl _) (a := a1263) (argsL := [(.ref a1233)]) (rest := [(.ref a1263)]) (lenOf pd___C_V rfl) rfl (by show 2 * 0 + _ ≤ _; exact Nat.le_of_eq rfl) (hb hby at_73) (fun _ _ => ⟨rfl, e1263, (by decide : 2 + 2 ≤ _), (by decide : 7 + 9 ≤ _)⟩)
      dsimp only [Pt.U, Pt.locs, Pt.cells, Pt.slots] at X1275 l1275 y1275 z1275 st1275 hQ1275
      subst l1275 y1275 z1275
      obtain ⟨t_1275, kt_1275, rfl, NQ1275, K1275, pq1275_0, fq1275_0, fq1275_1, fq1275_2⟩ := hQ1275
      have N1276 := Fr.app N1256 NQ1275
      have ne1277 : a1233 ≠ t_1275 := Nat.ne_of_lt (Nat.lt_of_lt_of_le f1268.lt pq1275_0)
      have ne1278 : a1263 ≠ t_1275 := Nat.ne_of_lt (Nat.lt_of_lt_of_le A1263.lt pq1275_0)
      have ge1279 : h0.size ≤ t_1275 := Nat.le_trans Z1270 pq1275_0
      have f1280 : Arv Z T1275.heap a1233 kc1233 .char (3 : Int32) [(.int cv0), (.int cv1), (.int cv2)] (.int (0 : Int32)) := f1268.keep K1275 (ninS ne1264 nin0)
      have f1281 : Exa Z T1275.heap a1263 "java/lang/String" := A1263.keep K1275
      have Old1282 := Old1269.keep K1275 (allS ge1265 all0)
      have Kp1283 : Keep h0 T1275.heap [] := Kp1271.trans K1275 (allS (Or.inr (Nat.le_trans Kp1260.1 (Nat.le_of_eq g1263.symm))) all0)
      have Z1284 := Nat.le_trans Z1270 K1275.1
      have hk1285 := Nat.le_trans hk1267 K1275.1
      refine Rch.st (fun _ k => st1275.trans k) ?_
      show Rch p e below T1275 (mkF m 76 #[.val (.int ln), .val (.int xa), .val (.int xb), .val (.int xc), .val (.int (3 : Int32)), .val (.int cv0), .val (.int cv1), .val (.int cv2), .val (.ref a1233), .unset, .unset] [(.ref a1263)]) _
      refine w_astore (pc' := 78) (l' := #[.val (.int ln), .val (.int xa), .val (.int xb), .val (.int xc), .val (.int (3 : Int32)), .val (.int cv0), .val (.int cv1), .val (.int cv2), .val (.ref a1233), .val (.ref a1263), .unset]) X1275 hx hby at_76 rfl rfl rfl ?_
      have J : ∀ (ex : Int32), (ex = own_iq cv0) →  Rch p e below T1275 (mkF m 104 #[.val (.int ln), .val (.int xa), .val (.int xb), .val (.int xc), .val (.int (3 : Int32)), .val (.int cv0), .val (.int cv1), .val (.int cv2), .val (.ref a1233), .val (.ref a1263), .val (.int ex)] []) (FinW s (Q_rm_law Z G1 ln xa xb xc h0 n0) 24 3200) := by
        intro ex hex
        refine w_aload (pc' := 106) X1275 hx hby at_104 rfl rfl rfl ?_
        obtain ⟨_, _, ⟨T1286, L1286, k1286, n1286⟩, -, X1286, hSx1286, hgx1286, ⟨Lc1286, hQ1286, l1286, y1286, z1286⟩, st1286⟩ := callSS X1275 hx (y := (⟨"com/example/alcance/alcance/Identifiers", "isQuoted", "(Ljava/lang/String;)Z"⟩ : MethodName)) hown (mvT hZ (hw _ (List.mem_of_getElem? (i := 23) rfl))) (mvT hZ (hw _ (List.mem_of_getElem? (i := 24) rfl))) (mvT hZ (hw _ (List.mem_of_getElem? (i := 25) rfl))) (mvT hZ (hw _ (List.mem_of_getElem? (i := 26) rfl))) (by decide) (backOfI (Ts := ([] : List String)) (W := 0) (rm_iq_U l Z a0 hw [] G1 a1263 t_1275 kt_1275 (6 : Int32) ([(.int (own_lo cv0)), (.int (own_hi cv0)), (.int (own_lo cv1)), (.int (own_hi cv1)), (.int (own_lo cv2)), (.int (own_hi cv2))]) (.int (0 : Int32)) cv0 T1275.heap h0.size Z1284 (O2) (P5) (SA) (SH) (SL) f1281 fq1275_0 fq1275_1 fq1275_2 (by decide) (by decide) (by decide) (rfl) (rfl) (hn0) (hm0) (H54) (H59) (hcw) Old1282) hZ hI (hw _ (List.mem_of_getElem? (i := 26) rfl)) (hw _ (List.mem_of_getElem? (i := 25) rfl)) (by decide) (by decide)) (g := (mkF m 106 #[.val (.int ln), .val (.int xa), .val (.int xb), .val (.int xc), .val (.int (3 : Int32)), .val (.int cv0), .val (.int cv1), .val (.int cv2), .val (.ref a1233), .val (.ref a1263), .val (.int ex)] [(.ref a1263)])) rfl (by rw [hml]; rfl) (argsL := [(.ref a1263)]) (rest := []) (lenOf pd__Ljava_lang_String__Z rfl) rfl (by show 2 * 0 + _ ≤ _; exact Nat.le_of_eq rfl) (hb hby at_106) (fun _ _ => ⟨rfl, (rfl : T1275.heap = T1275.heap), (by decide : 4 + 4 ≤ _), (by decide : 16 + 16 ≤ _)⟩)
        dsimp only [Pt.U, Pt.locs, Pt.cells, Pt.slots] at X1286 l1286 y1286 z1286 st1286 hQ1286 hSx1286 hgx1286
        subst l1286 y1286 z1286
        have hS1286 := foldS hS0 (by rw [(rfl : T1275.heap = T1275.heap)]; exact hk1285) hSx1286 hgx1286
        have hk1286 : T1286.heap.size ≤ T1286.heap.size := Nat.le_refl _
        have hZ1286 : Z.Warmed39 (s.setVm T1286.vm).vm := State.Warmed39.trans (t := s.setVm s.vm) hZ hSx1286.1
        have hown1286 : (s.setVm T1286.vm).vm.findClass "com/example/alcance/alcance/IdentifiersIsQuotedPinLaw" = some m.cls := by rw [show (s.setVm T1286.vm).vm = T1286.vm from rfl, hSx1286.1.alike.findClass]; exact hown
        have X1286w : Stand p l e room_1 (s.setVm T1286.vm) m _ below meth c T1286 _ _ _ := X1286
        obtain ⟨rfl, NQ1286, K1286, IQ1286⟩ := hQ1286
        have N1287 := Fr.app N1276 NQ1286
        have f1288 : Arv Z T1286.heap a1233 kc1233 .char (3 : Int32) [(.int cv0), (.int cv1), (.int cv2)] (.int (0 : Int32)) := f1280.keep K1286 nin0
        have f1289 : Exa Z T1286.heap a1263 "java/lang/String" := f1281.keep K1286
        have f1290 : Fld Z T1286.heap a1263 "java/lang/String" "coder" "B" (.int (1 : Int32)) := fq1275_0.keep K1286 nin0
        have f1291 : Fld Z T1286.heap a1263 "java/lang/String" "value" "[B" (.ref t_1275) := fq1275_1.keep K1286 nin0
        have f1292 : Arv Z T1286.heap t_1275 kt_1275 .byte (6 : Int32) [(.int (own_lo cv0)), (.int (own_hi cv0)), (.int (own_lo cv1)), (.int (own_hi cv1)), (.int (own_lo cv2)), (.int (own_hi cv2))] (.int (0 : Int32)) := fq1275_2.keep K1286 nin0
        have Old1293 := Old1282.keep K1286 all0
        have Kp1294 : Keep h0 T1286.heap [] := Kp1283.trans K1286 all0
        have Z1295 := Nat.le_trans Z1284 K1286.1
        refine Rch.st (fun _ k => st1286.trans k) ?_
        show Rch p e below T1286 (mkF m 109 #[.val (.int ln), .val (.int xa), .val (.int xb), .val (.int xc), .val (.int (3 : Int32)), .val (.int cv0), .val (.int cv1), .val (.int cv2), .val (.ref a1233), .val (.ref a1263), .val (.int ex)] [(.int (own_iq cv0))]) _
        refine w_iload (pc' := 111) X1286w hx hby at_109 rfl rfl ?_
        refine w_icmpNo (pc' := 114) X1286w hx hby at_111 (XT.ii_ne_f (hex.symm)) rfl ?_
        refine w_iconst (pc' := 115) (v := 1) X1286w hx hby at_114 rfl rfl ?_
        refine w_goto (pc' := 119) X1286w hx hby at_115 (by decide) ?_
        exact Rch.retVW X1286w hx hS1286 (by rw [(rfl : T1286.heap = T1286.heap)]; exact hk1286) Bd.returns rfl (Or.inl ⟨rfl, by simp, _, rfl⟩) (hb hby at_119) (by rw [(rfl : T1286.heap = T1286.heap)]; exact ⟨rfl, (own_Fr Z0 N1287), Kp1294, own_ib_mono (own_ib (s := s.setVm T1286.vm) IQ1286 X1286w.warmed) (by decide)⟩) (by decide) (by decide)
      refine w_iload (pc' := 80) X1275 hx hby at_78 rfl rfl ?_
      refine w_ifNo (pc' := 83) X1275 hx hby at_80 (XT.i0_le_f (by decide)) rfl ?_
      refine w_iload (pc' := 85) X1275 hx hby at_83 rfl rfl ?_
      refine w_bipush (pc' := 87) (v := 34) X1275 hx hby at_85 rfl rfl ?_
      by_cases c1296 : cv0 = (34 : Int32)
      · skip
        refine w_icmpYes (pc' := 97) X1275 hx hby at_87 (XT.ii_eq_t (c1296)) (by decide) ?_
        refine w_iconst (pc' := 98) (v := 1) X1275 hx hby at_97 rfl rfl ?_
        refine w_goto (pc' := 102) X1275 hx hby at_98 (by decide) ?_
        refine w_istore (pc' := 104) (l' := #[.val (.int ln), .val (.int xa), .val (.int xb), .val (.int xc), .val (.int (3 : Int32)), .val (.int cv0), .val (.int cv1), .val (.int cv2), .val (.ref a1233), .val (.ref a1263), .val (.int (1 : Int32))]) X1275 hx hby at_102 rfl rfl ?_
        exact J _ (by simp [own_iq, c1296])
      · skip
        refine w_icmpNo (pc' := 90) X1275 hx hby at_87 (XT.ii_eq_f (c1296)) rfl ?_
        refine w_iload (pc' := 92) X1275 hx hby at_90 rfl rfl ?_
        refine w_bipush (pc' := 94) (v := 96) X1275 hx hby at_92 rfl rfl ?_
        by_cases c1297 : cv0 = (96 : Int32)
        · skip
          refine w_icmpNo (pc' := 97) X1275 hx hby at_94 (XT.ii_ne_f (c1297)) rfl ?_
          refine w_iconst (pc' := 98) (v := 1) X1275 hx hby at_97 rfl rfl ?_
          refine w_goto (pc' := 102) X1275 hx hby at_98 (by decide) ?_
          refine w_istore (pc' := 104) (l' := #[.val (.int ln), .val (.int xa), .val (.int xb), .val (.int xc), .val (.int (3 : Int32)), .val (.int cv0), .val (.int cv1), .val (.int cv2), .val (.ref a1233), .val (.ref a1263), .val (.int (1 : Int32))]) X1275 hx hby at_102 rfl rfl ?_
          exact J _ (by simp [own_iq, c1296, c1297])
        · skip
          refine w_icmpYes (pc' := 101) X1275 hx hby at_94 (XT.ii_ne_t (c1297)) (by decide) ?_
          refine w_iconst (pc' := 102) (v := 0) X1275 hx hby at_101 rfl rfl ?_
          refine w_istore (pc' := 104) (l' := #[.val (.int ln), .val (.int xa), .val (.int xb), .val (.int xc), .val (.int (3 : Int32)), .val (.int cv0), .val (.int cv1), .val (.int cv2), .val (.ref a1233), .val (.ref a1263), .val (.int (0 : Int32))]) X1275 hx hby at_102 rfl rfl ?_
          exact J _ (by simp [own_iq, c1296, c1297])
    · skip
      by_cases hb1298 : (255 : Int32) < cv1
      · skip
        obtain ⟨_, _, ⟨T1299, L1299, k1299, n1299⟩, -, X1299, ⟨Lc1299, hQ1299, l1299, y1299, z1299⟩, st1299⟩ := X1263.specialBack hx (y := (⟨"java/lang/String", "<init>", "([C)V"⟩ : MethodName)) rfl hown (mvT hZ (hw _ (List.mem_of_getElem? (i := 5) rfl))) (mvT hZ (hw _ (List.mem_of_getElem? (i := 6) rfl))) (mvT hZ (hw _ (List.mem_of_getElem? (i := 7) rfl))) (by decide) (backOf (W := 1) (rm_init1_3_1 l Z a0 hw [] G1 a1263 a1233 kc1233 cv0 cv1 cv2 h1263 h0.size Z1270 (O2) (P5) (SA) (SH) (SL) A1263 f1272 f1273 f1268 (ge1265) ((Ne.symm ne1264)) (hb1274) (hb1298) (hn1) (hm1) Old1269) hZ (hw _ (List.mem_of_getElem? (i := 7) rfl)) (hw _ (List.mem_of_getElem? (i := 4) rfl)) (by decide) (by decide)) (g := (mkF m 73 #[.val (.int ln), .val (.int xa), .val (.int xb), .val (.int xc), .val (.int (3 : Int32)), .val (.int cv0), .val (.int cv1), .val (.int cv2), .val (.ref a1233), .unset, .unset] [(.ref a1233), (.ref a1263), (.ref a1263)])) rfl (by rw [hml]; rfl) (Steps.refl _) (a := a1263) (argsL := [(.ref a1233)]) (rest := [(.ref a1263)]) (lenOf pd___C_V rfl) rfl (by show 2 * 0 + _ ≤ _; exact Nat.le_of_eq rfl) (hb hby at_73) (fun _ _ => ⟨rfl, e1263, (by decide : 2 + 2 ≤ _), (by decide : 7 + 9 ≤ _)⟩)
        dsimp only [Pt.U, Pt.locs, Pt.cells, Pt.slots] at X1299 l1299 y1299 z1299 st1299 hQ1299
        subst l1299 y1299 z1299
        obtain ⟨t_1299, kt_1299, rfl, NQ1299, K1299, pq1299_0, fq1299_0, fq1299_1, fq1299_2⟩ := hQ1299
        have N1300 := Fr.app N1256 NQ1299
        have ne1301 : a1233 ≠ t_1299 := Nat.ne_of_lt (Nat.lt_of_lt_of_le f1268.lt pq1299_0)
        have ne1302 : a1263 ≠ t_1299 := Nat.ne_of_lt (Nat.lt_of_lt_of_le A1263.lt pq1299_0)
        have ge1303 : h0.size ≤ t_1299 := Nat.le_trans Z1270 pq1299_0
        have f1304 : Arv Z T1299.heap a1233 kc1233 .char (3 : Int32) [(.int cv0), (.int cv1), (.int cv2)] (.int (0 : Int32)) := f1268.keep K1299 (ninS ne1264 nin0)
        have f1305 : Exa Z T1299.heap a1263 "java/lang/String" := A1263.keep K1299
        have Old1306 := Old1269.keep K1299 (allS ge1265 all0)
        have Kp1307 : Keep h0 T1299.heap [] := Kp1271.trans K1299 (allS (Or.inr (Nat.le_trans Kp1260.1 (Nat.le_of_eq g1263.symm))) all0)
        have Z1308 := Nat.le_trans Z1270 K1299.1
        have hk1309 := Nat.le_trans hk1267 K1299.1
        refine Rch.st (fun _ k => st1299.trans k) ?_
        show Rch p e below T1299 (mkF m 76 #[.val (.int ln), .val (.int xa), .val (.int xb), .val (.int xc), .val (.int (3 : Int32)), .val (.int cv0), .val (.int cv1), .val (.int cv2), .val (.ref a1233), .unset, .unset] [(.ref a1263)]) _
        refine w_astore (pc' := 78) (l' := #[.val (.int ln), .val (.int xa), .val (.int xb), .val (.int xc), .val (.int (3 : Int32)), .val (.int cv0), .val (.int cv1), .val (.int cv2), .val (.ref a1233), .val (.ref a1263), .unset]) X1299 hx hby at_76 rfl rfl rfl ?_
        have J : ∀ (ex : Int32), (ex = own_iq cv0) →  Rch p e below T1299 (mkF m 104 #[.val (.int ln), .val (.int xa), .val (.int xb), .val (.int xc), .val (.int (3 : Int32)), .val (.int cv0), .val (.int cv1), .val (.int cv2), .val (.ref a1233), .val (.ref a1263), .val (.int ex)] []) (FinW s (Q_rm_law Z G1 ln xa xb xc h0 n0) 24 3200) := by
          intro ex hex
          refine w_aload (pc' := 106) X1299 hx hby at_104 rfl rfl rfl ?_
          obtain ⟨_, _, ⟨T1310, L1310, k1310, n1310⟩, -, X1310, hSx1310, hgx1310, ⟨Lc1310, hQ1310, l1310, y1310, z1310⟩, st1310⟩ := callSS X1299 hx (y := (⟨"com/example/alcance/alcance/Identifiers", "isQuoted", "(Ljava/lang/String;)Z"⟩ : MethodName)) hown (mvT hZ (hw _ (List.mem_of_getElem? (i := 23) rfl))) (mvT hZ (hw _ (List.mem_of_getElem? (i := 24) rfl))) (mvT hZ (hw _ (List.mem_of_getElem? (i := 25) rfl))) (mvT hZ (hw _ (List.mem_of_getElem? (i := 26) rfl))) (by decide) (backOfI (Ts := ([] : List String)) (W := 0) (rm_iq_U l Z a0 hw [] G1 a1263 t_1299 kt_1299 (6 : Int32) ([(.int (own_lo cv0)), (.int (own_hi cv0)), (.int (own_lo cv1)), (.int (own_hi cv1)), (.int (own_lo cv2)), (.int (own_hi cv2))]) (.int (0 : Int32)) cv0 T1299.heap h0.size Z1308 (O2) (P5) (SA) (SH) (SL) f1305 fq1299_0 fq1299_1 fq1299_2 (by decide) (by decide) (by decide) (rfl) (rfl) (hn0) (hm0) (H54) (H59) (hcw) Old1306) hZ hI (hw _ (List.mem_of_getElem? (i := 26) rfl)) (hw _ (List.mem_of_getElem? (i := 25) rfl)) (by decide) (by decide)) (g := (mkF m 106 #[.val (.int ln), .val (.int xa), .val (.int xb), .val (.int xc), .val (.int (3 : Int32)), .val (.int cv0), .val (.int cv1), .val (.int cv2), .val (.ref a1233), .val (.ref a1263), .val (.int ex)] [(.ref a1263)])) rfl (by rw [hml]; rfl) (argsL := [(.ref a1263)]) (rest := []) (lenOf pd__Ljava_lang_String__Z rfl) rfl (by show 2 * 0 + _ ≤ _; exact Nat.le_of_eq rfl) (hb hby at_106) (fun _ _ => ⟨rfl, (rfl : T1299.heap = T1299.heap), (by decide : 4 + 4 ≤ _), (by decide : 16 + 16 ≤ _)⟩)
          dsimp only [Pt.U, Pt.locs, Pt.cells, Pt.slots] at X1310 l1310 y1310 z1310 st1310 hQ1310 hSx1310 hgx1310
          subst l1310 y1310 z1310
          have hS1310 := foldS hS0 (by rw [(rfl : T1299.heap = T1299.heap)]; exact hk1309) hSx1310 hgx1310
          have hk1310 : T1310.heap.size ≤ T1310.heap.size := Nat.le_refl _
          have hZ1310 : Z.Warmed39 (s.setVm T1310.vm).vm := State.Warmed39.trans (t := s.setVm s.vm) hZ hSx1310.1
          have hown1310 : (s.setVm T1310.vm).vm.findClass "com/example/alcance/alcance/IdentifiersIsQuotedPinLaw" = some m.cls := by rw [show (s.setVm T1310.vm).vm = T1310.vm from rfl, hSx1310.1.alike.findClass]; exact hown
          have X1310w : Stand p l e room_1 (s.setVm T1310.vm) m _ below meth c T1310 _ _ _ := X1310
          obtain ⟨rfl, NQ1310, K1310, IQ1310⟩ := hQ1310
          have N1311 := Fr.app N1300 NQ1310
          have f1312 : Arv Z T1310.heap a1233 kc1233 .char (3 : Int32) [(.int cv0), (.int cv1), (.int cv2)] (.int (0 : Int32)) := f1304.keep K1310 nin0
          have f1313 : Exa Z T1310.heap a1263 "java/lang/String" := f1305.keep K1310
          have f1314 : Fld Z T1310.heap a1263 "java/lang/String" "coder" "B" (.int (1 : Int32)) := fq1299_0.keep K1310 nin0
          have f1315 : Fld Z T1310.heap a1263 "java/lang/String" "value" "[B" (.ref t_1299) := fq1299_1.keep K1310 nin0
          have f1316 : Arv Z T1310.heap t_1299 kt_1299 .byte (6 : Int32) [(.int (own_lo cv0)), (.int (own_hi cv0)), (.int (own_lo cv1)), (.int (own_hi cv1)), (.int (own_lo cv2)), (.int (own_hi cv2))] (.int (0 : Int32)) := fq1299_2.keep K1310 nin0
          have Old1317 := Old1306.keep K1310 all0
          have Kp1318 : Keep h0 T1310.heap [] := Kp1307.trans K1310 all0
          have Z1319 := Nat.le_trans Z1308 K1310.1
          refine Rch.st (fun _ k => st1310.trans k) ?_
          show Rch p e below T1310 (mkF m 109 #[.val (.int ln), .val (.int xa), .val (.int xb), .val (.int xc), .val (.int (3 : Int32)), .val (.int cv0), .val (.int cv1), .val (.int cv2), .val (.ref a1233), .val (.ref a1263), .val (.int ex)] [(.int (own_iq cv0))]) _
          refine w_iload (pc' := 111) X1310w hx hby at_109 rfl rfl ?_
          refine w_icmpNo (pc' := 114) X1310w hx hby at_111 (XT.ii_ne_f (hex.symm)) rfl ?_
          refine w_iconst (pc' := 115) (v := 1) X1310w hx hby at_114 rfl rfl ?_
          refine w_goto (pc' := 119) X1310w hx hby at_115 (by decide) ?_
          exact Rch.retVW X1310w hx hS1310 (by rw [(rfl : T1310.heap = T1310.heap)]; exact hk1310) Bd.returns rfl (Or.inl ⟨rfl, by simp, _, rfl⟩) (hb hby at_119) (by rw [(rfl : T1310.heap = T1310.heap)]; exact ⟨rfl, (own_Fr Z0 N1311), Kp1318, own_ib_mono (own_ib (s := s.setVm T1310.vm) IQ1310 X1310w.warmed) (by decide)⟩) (by decide) (by decide)
        refine w_iload (pc' := 80) X1299 hx hby at_78 rfl rfl ?_
        refine w_ifNo (pc' := 83) X1299 hx hby at_80 (XT.i0_le_f (by decide)) rfl ?_
        refine w_iload (pc' := 85) X1299 hx hby at_83 rfl rfl ?_
        refine w_bipush (pc' := 87) (v := 34) X1299 hx hby at_85 rfl rfl ?_
        by_cases c1320 : cv0 = (34 : Int32)
        · skip
          refine w_icmpYes (pc' := 97) X1299 hx hby at_87 (XT.ii_eq_t (c1320)) (by decide) ?_
          refine w_iconst (pc' := 98) (v := 1) X1299 hx hby at_97 rfl rfl ?_
          refine w_goto (pc' := 102) X1299 hx hby at_98 (by decide) ?_
          refine w_istore (pc' := 104) (l' := #[.val (.int ln), .val (.int xa), .val (.int xb), .val (.int xc), .val (.int (3 : Int32)), .val (.int cv0), .val (.int cv1), .val (.int cv2), .val (.ref a1233), .val (.ref a1263), .val (.int (1 : Int32))]) X1299 hx hby at_102 rfl rfl ?_
          exact J _ (by simp [own_iq, c1320])
        · skip
          refine w_icmpNo (pc' := 90) X1299 hx hby at_87 (XT.ii_eq_f (c1320)) rfl ?_
          refine w_iload (pc' := 92) X1299 hx hby at_90 rfl rfl ?_
          refine w_bipush (pc' := 94) (v := 96) X1299 hx hby at_92 rfl rfl ?_
          by_cases c1321 : cv0 = (96 : Int32)
          · skip
            refine w_icmpNo (pc' := 97) X1299 hx hby at_94 (XT.ii_ne_f (c1321)) rfl ?_
            refine w_iconst (pc' := 98) (v := 1) X1299 hx hby at_97 rfl rfl ?_
            refine w_goto (pc' := 102) X1299 hx hby at_98 (by decide) ?_
            refine w_istore (pc' := 104) (l' := #[.val (.int ln), .val (.int xa), .val (.int xb), .val (.int xc), .val (.int (3 : Int32)), .val (.int cv0), .val (.int cv1), .val (.int cv2), .val (.ref a1233), .val (.ref a1263), .val (.int (1 : Int32))]) X1299 hx hby at_102 rfl rfl ?_
            exact J _ (by simp [own_iq, c1320, c1321])
          · skip
            refine w_icmpYes (pc' := 101) X1299 hx hby at_94 (XT.ii_ne_t (c1321)) (by decide) ?_
            refine w_iconst (pc' := 102) (v := 0) X1299 hx hby at_101 rfl rfl ?_
            refine w_istore (pc' := 104) (l' := #[.val (.int ln), .val (.int xa), .val (.int xb), .val (.int xc), .val (.int (3 : Int32)), .val (.int cv0), .val (.int cv1), .val (.int cv2), .val (.ref a1233), .val (.ref a1263), .val (.int (0 : Int32))]) X1299 hx hby at_102 rfl rfl ?_
            exact J _ (by simp [own_iq, c1320, c1321])
      · skip
        by_cases hb1322 : (255 : Int32) < cv2
        · skip
          obtain ⟨_, _, ⟨T1323, L1323, k1323, n1323⟩, -, X1323, ⟨Lc1323, hQ1323, l1323, y1323, z1323⟩, st1323⟩ := X1263.specialBack hx (y := (⟨"java/lang/String", "<init>", "([C)V"⟩ : MethodName)) rfl hown (mvT hZ (hw _ (List.mem_of_getElem? (i := 5) rfl))) (mvT hZ (hw _ (List.mem_of_getElem? (i := 6) rfl))) (mvT hZ (hw _ (List.mem_of_getElem? (i := 7) rfl))) (by decide) (backOf (W := 1) (rm_init1_3_2 l Z a0 hw [] G1 a1263 a1233 kc1233 cv0 cv1 cv2 h1263 h0.size Z1270 (O2) (P5) (SA) (SH) (SL) A1263 f1272 f1273 f1268 (ge1265) ((Ne.symm ne1264)) (hb1274) (hb1298) (hb1322) (hn2) (hm2) Old1269) hZ (hw _ (List.mem_of_getElem? (i := 7) rfl)) (hw _ (List.mem_of_getElem? (i := 4) rfl)) (by decide) (by decide)) (g := (mkF m 73 #[.val (.int ln), .val (.int xa), .val (.int xb), .val (.int xc), .val (.int (3 : Int32)), .val (.int cv0), .val (.int cv1), .val (.int cv2), .val (.ref a1233), .unset, .unset] [(.ref a1233), (.ref a1263), (.ref a1263)])) rfl (by rw [hml]; rfl) (Steps.refl _) (a := a1263) (argsL := [(.ref a1233)]) (rest := [(.ref a1263)]) (lenOf pd___C_V rfl) rfl (by show 2 * 0 + _ ≤ _; exact Nat.le_of_eq rfl) (hb hby at_73) (fun _ _ => ⟨rfl, e1263, (by decide : 2 + 2 ≤ _), (by decide : 7 + 9 ≤ _)⟩)
          dsimp only [Pt.U, Pt.locs, Pt.cells, Pt.slots] at X1323 l1323 y1323 z1323 st1323 hQ1323
          subst l1323 y1323 z1323
          obtain ⟨t_1323, kt_1323, rfl, NQ1323, K1323, pq1323_0, fq1323_0, fq1323_1, fq1323_2⟩ := hQ1323
          have N1324 := Fr.app N1256 NQ1323
          have ne1325 : a1233 ≠ t_1323 := Nat.ne_of_lt (Nat.lt_of_lt_of_le f1268.lt pq1323_0)
          have ne1326 : a1263 ≠ t_1323 := Nat.ne_of_lt (Nat.lt_of_lt_of_le A1263.lt pq1323_0)
          have ge1327 : h0.size ≤ t_1323 := Nat.le_trans Z1270 pq1323_0
          have f1328 : Arv Z T1323.heap a1233 kc1233 .char (3 : Int32) [(.int cv0), (.int cv1), (.int cv2)] (.int (0 : Int32)) := f1268.keep K1323 (ninS ne1264 nin0)
          have f1329 : Exa Z T1323.heap a1263 "java/lang/String" := A1263.keep K1323
          have Old1330 := Old1269.keep K1323 (allS ge1265 all0)
          have Kp1331 : Keep h0 T1323.heap [] := Kp1271.trans K1323 (allS (Or.inr (Nat.le_trans Kp1260.1 (Nat.le_of_eq g1263.symm))) all0)
          have Z1332 := Nat.le_trans Z1270 K1323.1
          have hk1333 := Nat.le_trans hk1267 K1323.1
          refine Rch.st (fun _ k => st1323.trans k) ?_
          show Rch p e below T1323 (mkF m 76 #[.val (.int ln), .val (.int xa), .val (.int xb), .val (.int xc), .val (.int (3 : Int32)), .val (.int cv0), .val (.int cv1), .val (.int cv2), .val (.ref a1233), .unset, .unset] [(.ref a1263)]) _
          refine w_astore (pc' := 78) (l' := #[.val (.int ln), .val (.int xa), .val (.int xb), .val (.int xc), .val (.int (3 : Int32)), .val (.int cv0), .val (.int cv1), .val (.int cv2), .val (.ref a1233), .val (.ref a1263), .unset]) X1323 hx hby at_76 rfl rfl rfl ?_
          have J : ∀ (ex : Int32), (ex = own_iq cv0) →  Rch p e below T1323 (mkF m 104 #[.val (.int ln), .val (.int xa), .val (.int xb), .val (.int xc), .val (.int (3 : Int32)), .val (.int cv0), .val (.int cv1), .val (.int cv2), .val (.ref a1233), .val (.ref a1263), .val (.int ex)] []) (FinW s (Q_rm_law Z G1 ln xa xb xc h0 n0) 24 3200) := by
            intro ex hex
            refine w_aload (pc' := 106) X1323 hx hby at_104 rfl rfl rfl ?_
            obtain ⟨_, _, ⟨T1334, L1334, k1334, n1334⟩, -, X1334, hSx1334, hgx1334, ⟨Lc1334, hQ1334, l1334, y1334, z1334⟩, st1334⟩ := callSS X1323 hx (y := (⟨"com/example/alcance/alcance/Identifiers", "isQuoted", "(Ljava/lang/String;)Z"⟩ : MethodName)) hown (mvT hZ (hw _ (List.mem_of_getElem? (i := 23) rfl))) (mvT hZ (hw _ (List.mem_of_getElem? (i := 24) rfl))) (mvT hZ (hw _ (List.mem_of_getElem? (i := 25) rfl))) (mvT hZ (hw _ (List.mem_of_getElem? (i := 26) rfl))) (by decide) (backOfI (Ts := ([] : List String)) (W := 0) (rm_iq_U l Z a0 hw [] G1 a1263 t_1323 kt_1323 (6 : Int32) ([(.int (own_lo cv0)), (.int (own_hi cv0)), (.int (own_lo cv1)), (.int (own_hi cv1)), (.int (own_lo cv2)), (.int (own_hi cv2))]) (.int (0 : Int32)) cv0 T1323.heap h0.size Z1332 (O2) (P5) (SA) (SH) (SL) f1329 fq1323_0 fq1323_1 fq1323_2 (by decide) (by decide) (by decide) (rfl) (rfl) (hn0) (hm0) (H54) (H59) (hcw) Old1330) hZ hI (hw _ (List.mem_of_getElem? (i := 26) rfl)) (hw _ (List.mem_of_getElem? (i := 25) rfl)) (by decide) (by decide)) (g := (mkF m 106 #[.val (.int ln), .val (.int xa), .val (.int xb), .val (.int xc), .val (.int (3 : Int32)), .val (.int cv0), .val (.int cv1), .val (.int cv2), .val (.ref a1233), .val (.ref a1263), .val (.int ex)] [(.ref a1263)])) rfl (by rw [hml]; rfl) (argsL := [(.ref a1263)]) (rest := []) (lenOf pd__Ljava_lang_String__Z rfl) rfl (by show 2 * 0 + _ ≤ _; exact Nat.le_of_eq rfl) (hb hby at_106) (fun _ _ => ⟨rfl, (rfl : T1323.heap = T1323.heap), (by decide : 4 + 4 ≤ _), (by decide : 16 + 16 ≤ _)⟩)
            dsimp only [Pt.U, Pt.locs, Pt.cells, Pt.slots] at X1334 l1334 y1334 z1334 st1334 hQ1334 hSx1334 hgx1334
            subst l1334 y1334 z1334
            have hS1334 := foldS hS0 (by rw [(rfl : T1323.heap = T1323.heap)]; exact hk1333) hSx1334 hgx1334
            have hk1334 : T1334.heap.size ≤ T1334.heap.size := Nat.le_refl _
            have hZ1334 : Z.Warmed39 (s.setVm T1334.vm).vm := State.Warmed39.trans (t := s.setVm s.vm) hZ hSx1334.1
            have hown1334 : (s.setVm T1334.vm).vm.findClass "com/example/alcance/alcance/IdentifiersIsQuotedPinLaw" = some m.cls := by rw [show (s.setVm T1334.vm).vm = T1334.vm from rfl, hSx1334.1.alike.findClass]; exact hown
            have X1334w : Stand p l e room_1 (s.setVm T1334.vm) m _ below meth c T1334 _ _ _ := X1334
            obtain ⟨rfl, NQ1334, K1334, IQ1334⟩ := hQ1334
            have N1335 := Fr.app N1324 NQ1334
            have f1336 : Arv Z T1334.heap a1233 kc1233 .char (3 : Int32) [(.int cv0), (.int cv1), (.int cv2)] (.int (0 : Int32)) := f1328.keep K1334 nin0
            have f1337 : Exa Z T1334.heap a1263 "java/lang/String" := f1329.keep K1334
            have f1338 : Fld Z T1334.heap a1263 "java/lang/String" "coder" "B" (.int (1 : Int32)) := fq1323_0.keep K1334 nin0
            have f1339 : Fld Z T1334.heap a1263 "java/lang/String" "value" "[B" (.ref t_1323) := fq1323_1.keep K1334 nin0
            have f1340 : Arv Z T1334.heap t_1323 kt_1323 .byte (6 : Int32) [(.int (own_lo cv0)), (.int (own_hi cv0)), (.int (own_lo cv1)), (.int (own_hi cv1)), (.int (own_lo cv2)), (.int (own_hi cv2))] (.int (0 : Int32)) := fq1323_2.keep K1334 nin0
            have Old1341 := Old1330.keep K1334 all0
            have Kp1342 : Keep h0 T1334.heap [] := Kp1331.trans K1334 all0
            have Z1343 := Nat.le_trans Z1332 K1334.1
            refine Rch.st (fun _ k => st1334.trans k) ?_
            show Rch p e below T1334 (mkF m 109 #[.val (.int ln), .val (.int xa), .val (.int xb), .val (.int xc), .val (.int (3 : Int32)), .val (.int cv0), .val (.int cv1), .val (.int cv2), .val (.ref a1233), .val (.ref a1263), .val (.int ex)] [(.int (own_iq cv0))]) _
            refine w_iload (pc' := 111) X1334w hx hby at_109 rfl rfl ?_
            refine w_icmpNo (pc' := 114) X1334w hx hby at_111 (XT.ii_ne_f (hex.symm)) rfl ?_
            refine w_iconst (pc' := 115) (v := 1) X1334w hx hby at_114 rfl rfl ?_
            refine w_goto (pc' := 119) X1334w hx hby at_115 (by decide) ?_
            exact Rch.retVW X1334w hx hS1334 (by rw [(rfl : T1334.heap = T1334.heap)]; exact hk1334) Bd.returns rfl (Or.inl ⟨rfl, by simp, _, rfl⟩) (hb hby at_119) (by rw [(rfl : T1334.heap = T1334.heap)]; exact ⟨rfl, (own_Fr Z0 N1335), Kp1342, own_ib_mono (own_ib (s := s.setVm T1334.vm) IQ1334 X1334w.warmed) (by decide)⟩) (by decide) (by decide)
          refine w_iload (pc' := 80) X1323 hx hby at_78 rfl rfl ?_
          refine w_ifNo (pc' := 83) X1323 hx hby at_80 (XT.i0_le_f (by decide)) rfl ?_
          refine w_iload (pc' := 85) X1323 hx hby at_83 rfl rfl ?_
          refine w_bipush (pc' := 87) (v := 34) X1323 hx hby at_85 rfl rfl ?_
          by_cases c1344 : cv0 = (34 : Int32)
          · skip
            refine w_icmpYes (pc' := 97) X1323 hx hby at_87 (XT.ii_eq_t (c1344)) (by decide) ?_
            refine w_iconst (pc' := 98) (v := 1) X1323 hx hby at_97 rfl rfl ?_
            refine w_goto (pc' := 102) X1323 hx hby at_98 (by decide) ?_
            refine w_istore (pc' := 104) (l' := #[.val (.int ln), .val (.int xa), .val (.int xb), .val (.int xc), .val (.int (3 : Int32)), .val (.int cv0), .val (.int cv1), .val (.int cv2), .val (.ref a1233), .val (.ref a1263), .val (.int (1 : Int32))]) X1323 hx hby at_102 rfl rfl ?_
            exact J _ (by simp [own_iq, c1344])
          · skip
            refine w_icmpNo (pc' := 90) X1323 hx hby at_87 (XT.ii_eq_f (c1344)) rfl ?_
            refine w_iload (pc' := 92) X1323 hx hby at_90 rfl rfl ?_
            refine w_bipush (pc' := 94) (v := 96) X1323 hx hby at_92 rfl rfl ?_
            by_cases c1345 : cv0 = (96 : Int32)
            · skip
              refine w_icmpNo (pc' := 97) X1323 hx hby at_94 (XT.ii_ne_f (c1345)) rfl ?_
              refine w_iconst (pc' := 98) (v := 1) X1323 hx hby at_97 rfl rfl ?_
              refine w_goto (pc' := 102) X1323 hx hby at_98 (by decide) ?_
              refine w_istore (pc' := 104) (l' := #[.val (.int ln), .val (.int xa), .val (.int xb), .val (.int xc), .val (.int (3 : Int32)), .val (.int cv0), .val (.int cv1), .val (.int cv2), .val (.ref a1233), .val (.ref a1263), .val (.int (1 : Int32))]) X1323 hx hby at_102 rfl rfl ?_
              exact J _ (by simp [own_iq, c1344, c1345])
            · skip
              refine w_icmpYes (pc' := 101) X1323 hx hby at_94 (XT.ii_ne_t (c1345)) (by decide) ?_
              refine w_iconst (pc' := 102) (v := 0) X1323 hx hby at_101 rfl rfl ?_
              refine w_istore (pc' := 104) (l' := #[.val (.int ln), .val (.int xa), .val (.int xb), .val (.int xc), .val (.int (3 : Int32)), .val (.int cv0), .val (.int cv1), .val (.int cv2), .val (.ref a1233), .val (.ref a1263), .val (.int (0 : Int32))]) X1323 hx hby at_102 rfl rfl ?_
              exact J _ (by simp [own_iq, c1344, c1345])
        · skip
          obtain ⟨_, _, ⟨T1346, L1346, k1346, n1346⟩, -, X1346, ⟨Lc1346, hQ1346, l1346, y1346, z1346⟩, st1346⟩ := X1263.specialBack hx (y := (⟨"java/lang/String", "<init>", "([C)V"⟩ : MethodName)) rfl hown (mvT hZ (hw _ (List.mem_of_getElem? (i := 5) rfl))) (mvT hZ (hw _ (List.mem_of_getElem? (i := 6) rfl))) (mvT hZ (hw _ (List.mem_of_getElem? (i := 7) rfl))) (by decide) (backOf (W := 1) (rm_init1_3 l Z a0 hw [] G1 a1263 a1233 kc1233 cv0 cv1 cv2 h1263 h0.size Z1270 (O2) (P5) A1263 f1272 f1273 f1268 (ge1265) ((Ne.symm ne1264)) (hb1274) (hb1298) (hb1322) Old1269) hZ (hw _ (List.mem_of_getElem? (i := 7) rfl)) (hw _ (List.mem_of_getElem? (i := 4) rfl)) (by decide) (by decide)) (g := (mkF m 73 #[.val (.int ln), .val (.int xa), .val (.int xb), .val (.int xc), .val (.int (3 : Int32)), .val (.int cv0), .val (.int cv1), .val (.int cv2), .val (.ref a1233), .unset, .unset] [(.ref a1233), (.ref a1263), (.ref a1263)])) rfl (by rw [hml]; rfl) (Steps.refl _) (a := a1263) (argsL := [(.ref a1233)]) (rest := [(.ref a1263)]) (lenOf pd___C_V rfl) rfl (by show 2 * 0 + _ ≤ _; exact Nat.le_of_eq rfl) (hb hby at_73) (fun _ _ => ⟨rfl, e1263, (by decide : 2 + 1 ≤ _), (by decide : 7 + 3 ≤ _)⟩)
          dsimp only [Pt.U, Pt.locs, Pt.cells, Pt.slots] at X1346 l1346 y1346 z1346 st1346 hQ1346
          subst l1346 y1346 z1346
          obtain ⟨t_1346, kt_1346, rfl, NQ1346, K1346, pq1346_0, fq1346_0, fq1346_1, fq1346_2⟩ := hQ1346
          have N1347 := Fr.app N1256 NQ1346
          have ne1348 : a1233 ≠ t_1346 := Nat.ne_of_lt (Nat.lt_of_lt_of_le f1268.lt pq1346_0)
          have ne1349 : a1263 ≠ t_1346 := Nat.ne_of_lt (Nat.lt_of_lt_of_le A1263.lt pq1346_0)
          have ge1350 : h0.size ≤ t_1346 := Nat.le_trans Z1270 pq1346_0
          have f1351 : Arv Z T1346.heap a1233 kc1233 .char (3 : Int32) [(.int cv0), (.int cv1), (.int cv2)] (.int (0 : Int32)) := f1268.keep K1346 (ninS ne1264 nin0)
          have f1352 : Exa Z T1346.heap a1263 "java/lang/String" := A1263.keep K1346
          have Old1353 := Old1269.keep K1346 (allS ge1265 all0)
          have Kp1354 : Keep h0 T1346.heap [] := Kp1271.trans K1346 (allS (Or.inr (Nat.le_trans Kp1260.1 (Nat.le_of_eq g1263.symm))) all0)
          have Z1355 := Nat.le_trans Z1270 K1346.1
          have hk1356 := Nat.le_trans hk1267 K1346.1
          refine Rch.st (fun _ k => st1346.trans k) ?_
          show Rch p e below T1346 (mkF m 76 #[.val (.int ln), .val (.int xa), .val (.int xb), .val (.int xc), .val (.int (3 : Int32)), .val (.int cv0), .val (.int cv1), .val (.int cv2), .val (.ref a1233), .unset, .unset] [(.ref a1263)]) _
          have hb0 := hb1274
          refine w_astore (pc' := 78) (l' := #[.val (.int ln), .val (.int xa), .val (.int xb), .val (.int xc), .val (.int (3 : Int32)), .val (.int cv0), .val (.int cv1), .val (.int cv2), .val (.ref a1233), .val (.ref a1263), .unset]) X1346 hx hby at_76 rfl rfl rfl ?_
          have J : ∀ (ex : Int32), (ex = own_iq cv0) →  Rch p e below T1346 (mkF m 104 #[.val (.int ln), .val (.int xa), .val (.int xb), .val (.int xc), .val (.int (3 : Int32)), .val (.int cv0), .val (.int cv1), .val (.int cv2), .val (.ref a1233), .val (.ref a1263), .val (.int ex)] []) (FinW s (Q_rm_law Z G1 ln xa xb xc h0 n0) 24 3200) := by
            intro ex hex
            refine w_aload (pc' := 106) X1346 hx hby at_104 rfl rfl rfl ?_
            obtain ⟨_, _, ⟨T1357, L1357, k1357, n1357⟩, -, X1357, hSx1357, hgx1357, ⟨Lc1357, hQ1357, l1357, y1357, z1357⟩, st1357⟩ := callSS X1346 hx (y := (⟨"com/example/alcance/alcance/Identifiers", "isQuoted", "(Ljava/lang/String;)Z"⟩ : MethodName)) hown (mvT hZ (hw _ (List.mem_of_getElem? (i := 23) rfl))) (mvT hZ (hw _ (List.mem_of_getElem? (i := 24) rfl))) (mvT hZ (hw _ (List.mem_of_getElem? (i := 25) rfl))) (mvT hZ (hw _ (List.mem_of_getElem? (i := 26) rfl))) (by decide) (backOfI (Ts := ([] : List String)) (W := 0) (rm_iq_L l Z a0 hw [] G1 a1263 t_1346 kt_1346 (3 : Int32) ([(.int (own_by cv0)), (.int (own_by cv1)), (.int (own_by cv2))]) (.int (0 : Int32)) cv0 T1346.heap h0.size Z1355 (O2) (P5) f1352 fq1346_0 fq1346_1 fq1346_2 (by decide) (by decide) (rfl) (hn0) (hb0) (H54) (H59) (hcw) Old1353) hZ hI (hw _ (List.mem_of_getElem? (i := 26) rfl)) (hw _ (List.mem_of_getElem? (i := 25) rfl)) (by decide) (by decide)) (g := (mkF m 106 #[.val (.int ln), .val (.int xa), .val (.int xb), .val (.int xc), .val (.int (3 : Int32)), .val (.int cv0), .val (.int cv1), .val (.int cv2), .val (.ref a1233), .val (.ref a1263), .val (.int ex)] [(.ref a1263)])) rfl (by rw [hml]; rfl) (argsL := [(.ref a1263)]) (rest := []) (lenOf pd__Ljava_lang_String__Z rfl) rfl (by show 2 * 0 + _ ≤ _; exact Nat.le_of_eq rfl) (hb hby at_106) (fun _ _ => ⟨rfl, (rfl : T1346.heap = T1346.heap), (by decide : 3 + 4 ≤ _), (by decide : 10 + 16 ≤ _)⟩)
            dsimp only [Pt.U, Pt.locs, Pt.cells, Pt.slots] at X1357 l1357 y1357 z1357 st1357 hQ1357 hSx1357 hgx1357
            subst l1357 y1357 z1357
            have hS1357 := foldS hS0 (by rw [(rfl : T1346.heap = T1346.heap)]; exact hk1356) hSx1357 hgx1357
            have hk1357 : T1357.heap.size ≤ T1357.heap.size := Nat.le_refl _
            have hZ1357 : Z.Warmed39 (s.setVm T1357.vm).vm := State.Warmed39.trans (t := s.setVm s.vm) hZ hSx1357.1
            have hown1357 : (s.setVm T1357.vm).vm.findClass "com/example/alcance/alcance/IdentifiersIsQuotedPinLaw" = some m.cls := by rw [show (s.setVm T1357.vm).vm = T1357.vm from rfl, hSx1357.1.alike.findClass]; exact hown
            have X1357w : Stand p l e room_1 (s.setVm T1357.vm) m _ below meth c T1357 _ _ _ := X1357
            obtain ⟨rfl, NQ1357, K1357, IQ1357⟩ := hQ1357
            have N1358 := Fr.app N1347 NQ1357
            have f1359 : Arv Z T1357.heap a1233 kc1233 .char (3 : Int32) [(.int cv0), (.int cv1), (.int cv2)] (.int (0 : Int32)) := f1351.keep K1357 nin0
            have f1360 : Exa Z T1357.heap a1263 "java/lang/String" := f1352.keep K1357
            have f1361 : Fld Z T1357.heap a1263 "java/lang/String" "coder" "B" (.int (0 : Int32)) := fq1346_0.keep K1357 nin0
            have f1362 : Fld Z T1357.heap a1263 "java/lang/String" "value" "[B" (.ref t_1346) := fq1346_1.keep K1357 nin0
            have f1363 : Arv Z T1357.heap t_1346 kt_1346 .byte (3 : Int32) [(.int (own_by cv0)), (.int (own_by cv1)), (.int (own_by cv2))] (.int (0 : Int32)) := fq1346_2.keep K1357 nin0
            have Old1364 := Old1353.keep K1357 all0
            have Kp1365 : Keep h0 T1357.heap [] := Kp1354.trans K1357 all0
            have Z1366 := Nat.le_trans Z1355 K1357.1
            refine Rch.st (fun _ k => st1357.trans k) ?_
            show Rch p e below T1357 (mkF m 109 #[.val (.int ln), .val (.int xa), .val (.int xb), .val (.int xc), .val (.int (3 : Int32)), .val (.int cv0), .val (.int cv1), .val (.int cv2), .val (.ref a1233), .val (.ref a1263), .val (.int ex)] [(.int (own_iq cv0))]) _
            refine w_iload (pc' := 111) X1357w hx hby at_109 rfl rfl ?_
            refine w_icmpNo (pc' := 114) X1357w hx hby at_111 (XT.ii_ne_f (hex.symm)) rfl ?_
            refine w_iconst (pc' := 115) (v := 1) X1357w hx hby at_114 rfl rfl ?_
            refine w_goto (pc' := 119) X1357w hx hby at_115 (by decide) ?_
            exact Rch.retVW X1357w hx hS1357 (by rw [(rfl : T1357.heap = T1357.heap)]; exact hk1357) Bd.returns rfl (Or.inl ⟨rfl, by simp, _, rfl⟩) (hb hby at_119) (by rw [(rfl : T1357.heap = T1357.heap)]; exact ⟨rfl, (own_Fr Z0 N1358), Kp1365, own_ib_mono (own_ib (s := s.setVm T1357.vm) IQ1357 X1357w.warmed) (by decide)⟩) (by decide) (by decide)
          refine w_iload (pc' := 80) X1346 hx hby at_78 rfl rfl ?_
          refine w_ifNo (pc' := 83) X1346 hx hby at_80 (XT.i0_le_f (by decide)) rfl ?_
          refine w_iload (pc' := 85) X1346 hx hby at_83 rfl rfl ?_
          refine w_bipush (pc' := 87) (v := 34) X1346 hx hby at_85 rfl rfl ?_
          by_cases c1367 : cv0 = (34 : Int32)
          · skip
            refine w_icmpYes (pc' := 97) X1346 hx hby at_87 (XT.ii_eq_t (c1367)) (by decide) ?_
            refine w_iconst (pc' := 98) (v := 1) X1346 hx hby at_97 rfl rfl ?_
            refine w_goto (pc' := 102) X1346 hx hby at_98 (by decide) ?_
            refine w_istore (pc' := 104) (l' := #[.val (.int ln), .val (.int xa), .val (.int xb), .val (.int xc), .val (.int (3 : Int32)), .val (.int cv0), .val (.int cv1), .val (.int cv2), .val (.ref a1233), .val (.ref a1263), .val (.int (1 : Int32))]) X1346 hx hby at_102 rfl rfl ?_
            exact J _ (by simp [own_iq, c1367])
          · skip
            refine w_icmpNo (pc' := 90) X1346 hx hby at_87 (XT.ii_eq_f (c1367)) rfl ?_
            refine w_iload (pc' := 92) X1346 hx hby at_90 rfl rfl ?_
            refine w_bipush (pc' := 94) (v := 96) X1346 hx hby at_92 rfl rfl ?_
            by_cases c1368 : cv0 = (96 : Int32)
            · skip
              refine w_icmpNo (pc' := 97) X1346 hx hby at_94 (XT.ii_ne_f (c1368)) rfl ?_
              refine w_iconst (pc' := 98) (v := 1) X1346 hx hby at_97 rfl rfl ?_
              refine w_goto (pc' := 102) X1346 hx hby at_98 (by decide) ?_
              refine w_istore (pc' := 104) (l' := #[.val (.int ln), .val (.int xa), .val (.int xb), .val (.int xc), .val (.int (3 : Int32)), .val (.int cv0), .val (.int cv1), .val (.int cv2), .val (.ref a1233), .val (.ref a1263), .val (.int (1 : Int32))]) X1346 hx hby at_102 rfl rfl ?_
              exact J _ (by simp [own_iq, c1367, c1368])
            · skip
              refine w_icmpYes (pc' := 101) X1346 hx hby at_94 (XT.ii_ne_t (c1368)) (by decide) ?_
              refine w_iconst (pc' := 102) (v := 0) X1346 hx hby at_101 rfl rfl ?_
              refine w_istore (pc' := 104) (l' := #[.val (.int ln), .val (.int xa), .val (.int xb), .val (.int xc), .val (.int (3 : Int32)), .val (.int cv0), .val (.int cv1), .val (.int cv2), .val (.ref a1233), .val (.ref a1263), .val (.int (0 : Int32))]) X1346 hx hby at_102 rfl rfl ?_
              exact J _ (by simp [own_iq, c1367, c1368])

set_option maxRecDepth 65536 in
set_option maxHeartbeats 40000000 in
theorem comes_1 {Post : Tables → Env → Array Value → State → Outcome → State → Prop} (hpost : ∀ tb e args s v u, (limb_1_1.after args s (.returned v) u = true ∧ limb_1_2.after args s (.returned v) u = true ∧ True) → ReturnedEndW s (.returned v) u (Jvm.fieldLocs frame_1_writes args s ++ Jvm.arrayLocs frame_1_arrays args s ++ Jvm.staticLocs frame_1_statics s) 24 3200 → Post tb e args s (.returned v) u) :
    ArmFor flags0 classFile x code maxLocals ret World_1 tables_1 room_1 Calls_1 rest_1 Pre_1 Post := by
  intro l hfl _ _ p e ha hc hk s m args below hf hA hF happ hP
  obtain ⟨hcalls, hrest, hpre⟩ := hP
  obtain ⟨-, -, -, hnamed, -, -, -, hat⟩ := (Spec.applies_iff hf).mp happ
  obtain ⟨hg, hn⟩ := and_e (Cond.before_iff.mp (show (Jvm.Cond.and given_1 narrow_1).before args s = true from hpre))
  obtain ⟨hcnt, hgs⟩ := and_e hg
  obtain ⟨w0, w1, w2, w3, rfl⟩ : ∃ w0 w1 w2 w3, args = #[w0, w1, w2, w3] := by
    have hs : args.size = 4 := by simpa [Cond.value, given_1] using hcnt
    obtain ⟨L⟩ := args
    match L, hs with
    | [w0, w1, w2, w3], _ => exact ⟨w0, w1, w2, w3, rfl⟩
  have hw := fun d (hd : d ∈ tables_1) => atoms_spec (ws := Jvm.Cond.code x code maxLocals ret :: tables_1) hat d (List.mem_cons_of_mem _ hd)
  obtain ⟨hsets, hown0⟩ := atoms_of _ (rest_1_c_eq ▸ (show rest_1_c.before _ s = true from hrest))
  have hfit : Fit s := fun {y c} hc i hi => by
    obtain ⟨ha, rfl⟩ := Array.getElem?_eq_some_iff.mp hc
    have q := List.all_eq_true.mp ((Array.all_eq_true_iff_forall_mem.mp hF) _ (Array.getElem_mem ha)) i (List.mem_range.mpr hi)
    simpa [Array.getElem?_eq_getElem hi] using q
  obtain ⟨g0, gr0⟩ := and_e hgs
  obtain ⟨i0, q0⟩ := is_v g0
  obtain rfl : w0 = (.int i0) := Option.some.inj q0
  obtain ⟨g1, gr1⟩ := and_e gr0
  obtain ⟨i1, q1⟩ := is_v g1
  obtain rfl : w1 = (.int i1) := Option.some.inj q1
  obtain ⟨g2, gr2⟩ := and_e gr1
  obtain ⟨i2, q2⟩ := is_v g2
  obtain rfl : w2 = (.int i2) := Option.some.inj q2
  obtain ⟨i3, q3⟩ := is_v gr2
  obtain rfl : w3 = (.int i3) := Option.some.inj q3
  obtain ⟨G1, eG⟩ := is_v (Cond.before_iff.mp (hsets _ (List.mem_of_getElem? (i := 1) rfl)))
  have O2 := Sta.start eG (Or.inl (hsets _ (List.mem_of_getElem? (i := 0) rfl)))
  have P5 : ¬ (G1 = (0 : Int32)) := gotF (Cond.eq_ints eG (Term.int_eval (0))) (not_v (Cond.before_iff.mp (hsets _ (List.mem_of_getElem? (i := 2) rfl))))
  have SA := Sta.start (own_eqint (Cond.before_iff.mp (hsets _ (List.mem_of_getElem? (i := 12) rfl)))) (Or.inl (hsets _ (List.mem_of_getElem? (i := 11) rfl)))
  have SH := Sta.start (own_eqint (Cond.before_iff.mp (hsets _ (List.mem_of_getElem? (i := 15) rfl)))) (Or.inl (hsets _ (List.mem_of_getElem? (i := 14) rfl)))
  have SL := Sta.start (own_eqint (Cond.before_iff.mp (hsets _ (List.mem_of_getElem? (i := 18) rfl)))) (Or.inl (hsets _ (List.mem_of_getElem? (i := 17) rfl)))
  have H54 := hcalls.1 ("com/example/alcance/alcance/Identifiers", 54) (List.mem_of_getElem? (i := 0) rfl)
  have H59 := hcalls.1 ("com/example/alcance/alcance/Identifiers", 59) (List.mem_of_getElem? (i := 1) rfl)
  have H7 := hcalls.1 ("java/lang/String", 7) (List.mem_of_getElem? (i := 2) rfl)
  obtain ⟨n, o, h1, h2, h3, _, L, rfl, ⟨rfl, N, -⟩, hq⟩ := rm_law l s _ hw tables_1 G1 i0 i1 i2 i3 s.heap s.heap.size (Nat.le_refl _) O2 P5 SA SH SL H7 H54 H59 (hsets _ (List.mem_of_getElem? (i := 2) rfl)) (OldL.start s) p e ha hc hk s m _ below hf ((Spec.applies_iff_loose hf).mp happ).1 ⟨rfl, State.Warmed39.refl s, rfl, IB.start⟩ trivial
  refine ⟨n, _, h1, h2, h3, hpost _ _ _ _ _ _ ⟨Cond.after_iff.mpr rfl, Cond.after_iff.mpr (eq_i res_at (Term.int_eval (1)) rfl), trivial⟩ ⟨hq.1, hq.2.1, hq.2.2.1, (hq.2.2.2.sift fun y hy => Or.inr (N y hy)).mono (by decide) (by decide)⟩⟩
theorem main_1_1 : Claimed_1_1 := comes_1 fun _ _ _ _ _ _ h hF => ⟨h.1, hF⟩
theorem main_1_2 : Claimed_1_2 := comes_1 fun _ _ _ _ _ _ h hF => ⟨h.2.1, hF⟩
end Jvm.Pilot.@@N@@
namespace Jvm.Pilot.@@N@@
open Jvm Jvm.ClassFile Sem Op Lib Jvm.Free Jvm.Stand Jvm.Pilot.@@N@@.Jvm.D
/-! MADE BY PROGRAM (witnessworld.py) out of the Statement's table words and the real class files: 21 classes; the members and pool entries that the words name. The judged class is class 1, her method 1. -/
namespace start1
open Jvm.ClassFile
def u (s : String) : CpInfo := .utf8 (stringToUtf16 s)
/-- a pool by its gaps: so many unusable entries, then the entry; so many at the end -/
def gap : Nat → List CpInfo → List CpInfo
  | 0, r => r
  | n + 1, r => .unusable :: gap n r
def poolList (es : List (Nat × CpInfo)) (last : Nat) : List CpInfo := es.foldr (fun e r => gap e.1 (e.2 :: r)) (gap last [])
def pool (es : List (Nat × CpInfo)) (last : Nat) : Array CpInfo := ⟨poolList es last⟩
def fileOf (pool : Array CpInfo) (this : Nat) (attrs : Array Attribute := #[]) (ms : Array MethodInfo := #[]) (fl : Nat := 33) (sup : Nat := 0) (ifs : Array Nat := #[]) (fds : Array FieldInfo := #[]) : ClassFile where
  minorVersion := 0
  majorVersion := 65
  constantPool := pool
  accessFlags := fl
  thisClass := this
  superClass := sup
  interfaces := ifs
  fields := fds
  methods := ms
  attributes := attrs
def plain (name : String) (sup : Option ClassId) : Class where
  name := name
  kind := .ordinary
  loader := none
  accessFlags := 33
  super := sup
  interfaces := #[]
  cf := none
  fields := #[]
  methods := #[]
  instanceTypes := #[]
  staticTypes := #[]
  resolved := #[]
  callSites := []
  init := .initialized
  statics := none
  mirror := none

def pool0 : Array CpInfo := pool [(5, u "<init>"), (0, u "()V"), (1, .class_ 10), (1, u "java/lang/Object")] 113

def k0c0 : Code := { maxStack := 0, maxLocals := 1, code := object_method_1_code, exceptionTable := #[], attributes := #[] }
def k0m0 : Method := { name := "<init>", desc := "()V", sig := { parameters := [], returnType := none }, accessFlags := 1, code := some k0c0 }
/-- java/lang/Object -/
def k0 : Class := { plain "java/lang/Object" none with
  accessFlags := 33
  interfaces := #[]
  cf := some (fileOf pool0 8 #[] #[{ accessFlags := 1, nameIndex := 5, descriptorIndex := 6, attributes := #[] }] 33 0 #[] #[])
  fields := #[]
  methods := #[k0m0]
  instanceTypes := #[]
  staticTypes := #[]
  resolved := Array.replicate 124 none
  statics := none }

def pool1 : Array CpInfo := pool [(2, .class_ 4), (1, u "java/lang/Object"), (0, u "<init>"), (0, u "()V"), (0, .integer 65535), (0, .class_ 9), (0, u "java/lang/String"), (0, .methodref 8 11), (0, .nameAndType 5 12), (0, u "([C)V"), (0, .methodref 14 15), (0, .class_ 16), (0, .nameAndType 17 18), (0, u "com/example/alcance/alcance/Identifiers"), (0, u "isQuoted"), (0, u "(Ljava/lang/String;)Z"), (0, .class_ 20), (0, u "com/example/alcance/alcance/IdentifiersIsQuotedPinLaw"), (2, u "law"), (0, u "(IIII)Z")] 5

def k1m0 : Method := { name := "<init>", desc := "()V", sig := { parameters := [], returnType := none }, accessFlags := 1, code := none }
def k1c1 : Code := { maxStack := 3, maxLocals := 11, code := code, exceptionTable := #[], attributes := #[] }
def k1m1 : Method := { name := "law", desc := "(IIII)Z", sig := { parameters := [.int, .int, .int, .int], returnType := some .boolean }, accessFlags := 9, code := some k1c1 }
/-- com/example/alcance/alcance/IdentifiersIsQuotedPinLaw -/
def k1 : Class := { plain "com/example/alcance/alcance/IdentifiersIsQuotedPinLaw" (some 0) with
  accessFlags := 49
  interfaces := #[]
  cf := some (fileOf pool1 19 #[] #[{ accessFlags := 1, nameIndex := 5, descriptorIndex := 6, attributes := #[] }, { accessFlags := 9, nameIndex := 23, descriptorIndex := 24, attributes := #[] }] 49 2 #[] #[])
  fields := #[]
  methods := #[k1m0, k1m1]
  instanceTypes := #[]
  staticTypes := #[]
  resolved := Array.replicate 30 none
  statics := none }

def pool2 : Array CpInfo := pool [(1, .class_ 2), (0, u "java/io/Serializable"), (0, .class_ 4), (0, u "java/lang/Object")] 2

/-- java/io/Serializable -/
def k2 : Class := { plain "java/io/Serializable" (some 0) with
  accessFlags := 1537
  interfaces := #[]
  cf := some (fileOf pool2 1 #[] #[] 1537 3 #[] #[])
  fields := #[]
  methods := #[]
  instanceTypes := #[]
  staticTypes := #[]
  resolved := Array.replicate 7 none
  statics := none }

def pool3 : Array CpInfo := pool [(1, .class_ 2), (0, u "java/lang/Comparable"), (0, .class_ 4), (0, u "java/lang/Object")] 7

/-- java/lang/Comparable -/
def k3 : Class := { plain "java/lang/Comparable" (some 0) with
  accessFlags := 1537
  interfaces := #[]
  cf := some (fileOf pool3 1 #[] #[] 1537 3 #[] #[])
  fields := #[]
  methods := #[]
  instanceTypes := #[]
  staticTypes := #[]
  resolved := Array.replicate 12 none
  statics := none }

def pool4 : Array CpInfo := pool [(2, .class_ 4), (1, u "java/lang/CharSequence"), (42, .class_ 48), (0, u "java/lang/CharSequence$1CodePointIterator"), (10, .class_ 60), (0, u "java/lang/CharSequence$1CharIterator"), (5, .class_ 67), (0, u "java/lang/Object")] 63

/-- java/lang/CharSequence -/
def k4 : Class := { plain "java/lang/CharSequence" (some 0) with
  accessFlags := 1537
  interfaces := #[]
  cf := some (fileOf pool4 2 #[.nestMembers #[47, 59]] #[] 1537 66 #[] #[])
  fields := #[]
  methods := #[]
  instanceTypes := #[]
  staticTypes := #[]
  resolved := Array.replicate 131 none
  statics := none }

def pool5 : Array CpInfo := pool [(1, .class_ 2), (0, u "java/lang/constant/Constable"), (0, .class_ 4), (0, u "java/lang/Object")] 6

/-- java/lang/constant/Constable -/
def k5 : Class := { plain "java/lang/constant/Constable" (some 0) with
  accessFlags := 1537
  interfaces := #[]
  cf := some (fileOf pool5 1 #[] #[] 1537 3 #[] #[])
  fields := #[]
  methods := #[]
  instanceTypes := #[]
  staticTypes := #[]
  resolved := Array.replicate 11 none
  statics := none }

def pool6 : Array CpInfo := pool [(1, .class_ 2), (0, u "java/lang/constant/ConstantDesc"), (0, .class_ 4), (0, u "java/lang/Object")] 32

/-- java/lang/constant/ConstantDesc -/
def k6 : Class := { plain "java/lang/constant/ConstantDesc" (some 0) with
  accessFlags := 1537
  interfaces := #[]
  cf := some (fileOf pool6 1 #[] #[] 1537 3 #[] #[])
  fields := #[]
  methods := #[]
  instanceTypes := #[]
  staticTypes := #[]
  resolved := Array.replicate 37 none
  statics := none }

def pool7 : Array CpInfo := pool [(1, .methodref 2 3), (0, .class_ 4), (0, .nameAndType 5 6), (0, u "java/lang/Object"), (0, u "<init>"), (0, u "()V"), (0, .string 8), (0, u ""), (0, .fieldref 10 11), (0, .class_ 12), (0, .nameAndType 13 14), (0, u "java/lang/String"), (0, u "value"), (0, u "[B"), (0, .fieldref 10 16), (0, .nameAndType 17 18), (0, u "coder"), (0, u "B"), (2, u "hash"), (0, u "I"), (2, u "hashIsZero"), (0, u "Z"), (0, .methodref 10 28), (0, .nameAndType 5 29), (0, u "([CIILjava/lang/Void;)V"), (8, .fieldref 10 39), (0, .nameAndType 40 26), (0, u "COMPACT_STRINGS"), (1, .class_ 44), (1, u "java/lang/StringUTF16"), (0, u "compress"), (1, .methodref 42 48), (0, .nameAndType 49 50), (0, u "coderFromArrayLen"), (0, u "([BI)B"), (126, .methodref 42 178), (0, .nameAndType 45 179), (0, u "([CII)[B"), (154, u "()I"), (0, .methodref 10 336), (0, .nameAndType 17 337), (0, u "()B"), (22, .methodref 42 361), (0, .nameAndType 362 363), (0, u "getChar"), (0, u "([BI)C"), (12, u "([BI[BII)I"), (128, .methodref 10 506), (0, .nameAndType 507 334), (0, u "length"), (51, .class_ 561), (1, u "jdk/internal/util/ArraysSupport"), (0, u "mismatch"), (12, .class_ 576), (0, u "java/lang/CharSequence"), (22, u "CASE_INSENSITIVE_ORDER"), (0, u "Ljava/util/Comparator;"), (6, .methodref 559 608), (0, .nameAndType 562 376), (15, .methodref 10 625), (0, .nameAndType 626 627), (0, u "startsWith"), (0, u "(Ljava/lang/String;I)Z"), (382, u "([C)V"), (90, u "serialPersistentFields"), (0, u "[Ljava/io/ObjectStreamField;"), (0, .class_ 1104), (0, u "java/lang/String$CaseInsensitiveComparator"), (1, .class_ 1107), (0, u "java/io/Serializable"), (0, .class_ 1109), (0, u "java/lang/Comparable"), (0, .class_ 1111), (0, u "java/lang/constant/Constable"), (0, .class_ 1113), (0, u "java/lang/constant/ConstantDesc"), (2, u "serialVersionUID"), (0, u "J"), (3, u "REPL"), (0, u "C"), (2, u "LATIN1"), (1, u "UTF16"), (129, u "(Ljava/lang/String;)Z")] 193

def k7m0 : Method := { name := "<init>", desc := "()V", sig := { parameters := [], returnType := none }, accessFlags := 1, code := none }
def k7c1 : Code := { maxStack := 5, maxLocals := 2, code := jdk_42_method_3_code, exceptionTable := #[], attributes := #[] }
def k7m1 : Method := { name := "<init>", desc := "([C)V", sig := { parameters := [(.array .char)], returnType := none }, accessFlags := 1, code := some k7c1 }
def k7c2 : Code := { maxStack := 2, maxLocals := 1, code := jdk_42_method_54_code, exceptionTable := #[], attributes := #[] }
def k7m2 : Method := { name := "length", desc := "()I", sig := { parameters := [], returnType := some .int }, accessFlags := 1, code := some k7c2 }
def k7c3 : Code := { maxStack := 5, maxLocals := 8, code := jdk_42_method_75_code, exceptionTable := #[], attributes := #[] }
def k7m3 : Method := { name := "startsWith", desc := "(Ljava/lang/String;I)Z", sig := { parameters := [(.object "java/lang/String"), .int], returnType := some .boolean }, accessFlags := 1, code := some k7c3 }
def k7c4 : Code := { maxStack := 3, maxLocals := 2, code := jdk_42_method_76_code, exceptionTable := #[], attributes := #[] }
def k7m4 : Method := { name := "startsWith", desc := "(Ljava/lang/String;)Z", sig := { parameters := [(.object "java/lang/String")], returnType := some .boolean }, accessFlags := 1, code := some k7c4 }
def k7c5 : Code := { maxStack := 4, maxLocals := 6, code := jdk_42_method_149_code, exceptionTable := #[], attributes := #[] }
def k7m5 : Method := { name := "<init>", desc := "([CIILjava/lang/Void;)V", sig := { parameters := [(.array .char), .int, .int, (.object "java/lang/Void")], returnType := none }, accessFlags := 2, code := some k7c5 }
def k7c6 : Code := { maxStack := 1, maxLocals := 1, code := jdk_42_method_152_code, exceptionTable := #[], attributes := #[] }
def k7m6 : Method := { name := "coder", desc := "()B", sig := { parameters := [], returnType := some .byte }, accessFlags := 0, code := some k7c6 }
/-- java/lang/String -/
def k7 : Class := { plain "java/lang/String" (some 0) with
  accessFlags := 49
  interfaces := #[2, 3, 4, 5, 6]
  cf := some (fileOf pool7 10 #[.nestMembers #[1103]] #[{ accessFlags := 1, nameIndex := 5, descriptorIndex := 6, attributes := #[] }, { accessFlags := 1, nameIndex := 5, descriptorIndex := 1010, attributes := #[] }, { accessFlags := 1, nameIndex := 507, descriptorIndex := 334, attributes := #[] }, { accessFlags := 1, nameIndex := 626, descriptorIndex := 627, attributes := #[] }, { accessFlags := 1, nameIndex := 626, descriptorIndex := 1257, attributes := #[] }, { accessFlags := 2, nameIndex := 5, descriptorIndex := 29, attributes := #[] }, { accessFlags := 0, nameIndex := 17, descriptorIndex := 337, attributes := #[] }] 49 2 #[1106, 1108, 575, 1110, 1112] #[{ accessFlags := 18, nameIndex := 13, descriptorIndex := 14, attributes := #[] }, { accessFlags := 18, nameIndex := 17, descriptorIndex := 18, attributes := #[] }, { accessFlags := 2, nameIndex := 21, descriptorIndex := 22, attributes := #[] }, { accessFlags := 2, nameIndex := 25, descriptorIndex := 26, attributes := #[] }, { accessFlags := 26, nameIndex := 1116, descriptorIndex := 1117, attributes := #[] }, { accessFlags := 24, nameIndex := 40, descriptorIndex := 26, attributes := #[] }, { accessFlags := 26, nameIndex := 1101, descriptorIndex := 1102, attributes := #[] }, { accessFlags := 26, nameIndex := 1121, descriptorIndex := 1122, attributes := #[] }, { accessFlags := 25, nameIndex := 599, descriptorIndex := 600, attributes := #[] }, { accessFlags := 24, nameIndex := 1125, descriptorIndex := 18, attributes := #[] }, { accessFlags := 24, nameIndex := 1127, descriptorIndex := 18, attributes := #[] }])
  fields := #[{ name := "value", type := (.array .byte), accessFlags := 18, slot := 0, constantValue := 0 }, { name := "coder", type := .byte, accessFlags := 18, slot := 1, constantValue := 0 }, { name := "hash", type := .int, accessFlags := 2, slot := 2, constantValue := 0 }, { name := "hashIsZero", type := .boolean, accessFlags := 2, slot := 3, constantValue := 0 }, { name := "serialVersionUID", type := .long, accessFlags := 26, slot := 0, constantValue := 0 }, { name := "COMPACT_STRINGS", type := .boolean, accessFlags := 24, slot := 1, constantValue := 0 }, { name := "serialPersistentFields", type := (.array (.object "java/io/ObjectStreamField")), accessFlags := 26, slot := 2, constantValue := 0 }, { name := "REPL", type := .char, accessFlags := 26, slot := 3, constantValue := 0 }, { name := "CASE_INSENSITIVE_ORDER", type := (.object "java/util/Comparator"), accessFlags := 25, slot := 4, constantValue := 0 }, { name := "LATIN1", type := .byte, accessFlags := 24, slot := 5, constantValue := 0 }, { name := "UTF16", type := .byte, accessFlags := 24, slot := 6, constantValue := 0 }]
  methods := #[k7m0, k7m1, k7m2, k7m3, k7m4, k7m5, k7m6]
  instanceTypes := #[(.array .byte), .byte, .int, .boolean]
  staticTypes := #[.long, .boolean, (.array (.object "java/io/ObjectStreamField")), .char, (.object "java/util/Comparator"), .byte, .byte]
  resolved := Array.replicate 1451 none
  statics := some 0 }

def pool8 : Array CpInfo := pool [(2, .class_ 4), (1, u "java/lang/Object"), (0, u "<init>"), (0, u "()V"), (0, .class_ 8), (0, u "java/lang/Record")] 13

def k8m0 : Method := { name := "<init>", desc := "()V", sig := { parameters := [], returnType := none }, accessFlags := 4, code := none }
/-- java/lang/Record -/
def k8 : Class := { plain "java/lang/Record" (some 0) with
  accessFlags := 1057
  interfaces := #[]
  cf := some (fileOf pool8 7 #[] #[{ accessFlags := 4, nameIndex := 5, descriptorIndex := 6, attributes := #[] }] 1057 2 #[] #[])
  fields := #[]
  methods := #[k8m0]
  instanceTypes := #[]
  staticTypes := #[]
  resolved := Array.replicate 22 none
  statics := none }

def pool9 : Array CpInfo := pool [(2, .class_ 4), (1, u "java/lang/Record"), (3, .class_ 10), (1, u "com/example/alcance/alcance/Identifiers"), (0, u "lowersBare"), (0, u "Z"), (2, u "lowersQuoted"), (2, u "quote"), (0, u "Ljava/lang/String;"), (18, u "isQuoted"), (0, u "(Ljava/lang/String;)Z"), (1, .class_ 43), (1, u "java/lang/String"), (10, .string 55), (0, u "\""), (0, .methodref 41 57), (0, .nameAndType 58 39), (0, u "startsWith"), (0, .string 60), (0, u "`")] 75

def k9c0 : Code := { maxStack := 2, maxLocals := 1, code := prog_3_method_4_code, exceptionTable := #[], attributes := #[] }
def k9m0 : Method := { name := "isQuoted", desc := "(Ljava/lang/String;)Z", sig := { parameters := [(.object "java/lang/String")], returnType := some .boolean }, accessFlags := 8, code := some k9c0 }
/-- com/example/alcance/alcance/Identifiers -/
def k9 : Class := { plain "com/example/alcance/alcance/Identifiers" (some 8) with
  accessFlags := 48
  interfaces := #[]
  cf := some (fileOf pool9 8 #[] #[{ accessFlags := 8, nameIndex := 38, descriptorIndex := 39, attributes := #[] }] 48 2 #[] #[{ accessFlags := 18, nameIndex := 11, descriptorIndex := 12, attributes := #[] }, { accessFlags := 18, nameIndex := 15, descriptorIndex := 12, attributes := #[] }, { accessFlags := 18, nameIndex := 18, descriptorIndex := 19, attributes := #[] }])
  fields := #[{ name := "lowersBare", type := .boolean, accessFlags := 18, slot := 0, constantValue := 0 }, { name := "lowersQuoted", type := .boolean, accessFlags := 18, slot := 1, constantValue := 0 }, { name := "quote", type := (.object "java/lang/String"), accessFlags := 18, slot := 2, constantValue := 0 }]
  methods := #[k9m0]
  instanceTypes := #[.boolean, .boolean, (.object "java/lang/String")]
  staticTypes := #[]
  resolved := Array.replicate 136 none
  statics := none }

def pool10 : Array CpInfo := pool [(6, .class_ 8), (1, u "java/lang/Object"), (0, u "<init>"), (0, u "()V"), (0, .methodref 12 13), (0, .class_ 14), (0, .nameAndType 15 16), (0, u "java/lang/StringUTF16"), (0, u "newBytesLength"), (0, u "(I)I"), (3, .integer 1073741823), (23, .fieldref 12 45), (0, .nameAndType 46 47), (0, u "$assertionsDisabled"), (0, u "Z"), (11, .fieldref 12 60), (0, .nameAndType 61 62), (0, u "HI_BYTE_SHIFT"), (0, u "I"), (0, .fieldref 12 64), (0, .nameAndType 65 62), (0, u "LO_BYTE_SHIFT"), (5, .methodref 12 72), (0, .nameAndType 73 74), (0, u "getChar"), (0, u "([BI)C"), (32, .methodref 12 108), (0, .nameAndType 109 110), (0, u "newBytesFor"), (0, u "(I)[B"), (0, .methodref 12 112), (0, .nameAndType 113 114), (0, u "putChar"), (0, u "([BII)V"), (0, .methodref 12 116), (0, .nameAndType 117 118), (0, u "compress"), (0, u "([CI[BII)I"), (0, .methodref 12 120), (0, .nameAndType 121 122), (0, u "toBytes"), (0, u "([CII)[B"), (138, u "coderFromArrayLen"), (0, u "([BI)B"), (106, .class_ 371), (1, u "java/lang/StringUTF16$LinesSpliterator"), (58, u "MAX_LENGTH"), (196, .class_ 628), (0, u "java/lang/StringUTF16$CodePointsSpliterator"), (0, .class_ 630), (0, u "java/lang/StringUTF16$CharsSpliterator")] 4

def k10m0 : Method := { name := "<init>", desc := "()V", sig := { parameters := [], returnType := none }, accessFlags := 0, code := none }
def k10c1 : Code := { maxStack := 1, maxLocals := 1, code := jdk_52_method_2_code, exceptionTable := #[], attributes := #[] }
def k10m1 : Method := { name := "newBytesFor", desc := "(I)[B", sig := { parameters := [.int], returnType := some (.array .byte) }, accessFlags := 9, code := some k10c1 }
def k10c2 : Code := { maxStack := 4, maxLocals := 1, code := jdk_52_method_3_code, exceptionTable := #[], attributes := #[] }
def k10m2 : Method := { name := "newBytesLength", desc := "(I)I", sig := { parameters := [.int], returnType := some .int }, accessFlags := 9, code := some k10c2 }
def k10c3 : Code := { maxStack := 4, maxLocals := 3, code := jdk_52_method_4_code, exceptionTable := #[], attributes := #[] }
def k10m3 : Method := { name := "putChar", desc := "([BII)V", sig := { parameters := [(.array .byte), .int, .int], returnType := none }, accessFlags := 8, code := some k10c3 }
def k10c4 : Code := { maxStack := 3, maxLocals := 2, code := jdk_52_method_5_code, exceptionTable := #[], attributes := #[] }
def k10m4 : Method := { name := "getChar", desc := "([BI)C", sig := { parameters := [(.array .byte), .int], returnType := some .char }, accessFlags := 8, code := some k10c4 }
def k10c5 : Code := { maxStack := 4, maxLocals := 5, code := jdk_52_method_14_code, exceptionTable := #[], attributes := #[] }
def k10m5 : Method := { name := "toBytes", desc := "([CII)[B", sig := { parameters := [(.array .char), .int, .int], returnType := some (.array .byte) }, accessFlags := 9, code := some k10c5 }
def k10c6 : Code := { maxStack := 2, maxLocals := 2, code := jdk_52_method_15_code, exceptionTable := #[], attributes := #[] }
def k10m6 : Method := { name := "coderFromArrayLen", desc := "([BI)B", sig := { parameters := [(.array .byte), .int], returnType := some .byte }, accessFlags := 8, code := some k10c6 }
def k10c7 : Code := { maxStack := 5, maxLocals := 6, code := jdk_52_method_16_code, exceptionTable := #[], attributes := #[] }
def k10m7 : Method := { name := "compress", desc := "([CII)[B", sig := { parameters := [(.array .char), .int, .int], returnType := some (.array .byte) }, accessFlags := 9, code := some k10c7 }
def k10c8 : Code := { maxStack := 3, maxLocals := 7, code := jdk_52_method_21_code, exceptionTable := #[], attributes := #[] }
def k10m8 : Method := { name := "compress", desc := "([CI[BII)I", sig := { parameters := [(.array .char), .int, (.array .byte), .int, .int], returnType := some .int }, accessFlags := 9, code := some k10c8 }
/-- java/lang/StringUTF16 -/
def k10 : Class := { plain "java/lang/StringUTF16" (some 0) with
  accessFlags := 48
  interfaces := #[]
  cf := some (fileOf pool10 12 #[.nestMembers #[627, 629, 369]] #[{ accessFlags := 0, nameIndex := 9, descriptorIndex := 10, attributes := #[] }, { accessFlags := 9, nameIndex := 109, descriptorIndex := 110, attributes := #[] }, { accessFlags := 9, nameIndex := 15, descriptorIndex := 16, attributes := #[] }, { accessFlags := 8, nameIndex := 113, descriptorIndex := 114, attributes := #[] }, { accessFlags := 8, nameIndex := 73, descriptorIndex := 74, attributes := #[] }, { accessFlags := 9, nameIndex := 121, descriptorIndex := 122, attributes := #[] }, { accessFlags := 8, nameIndex := 261, descriptorIndex := 262, attributes := #[] }, { accessFlags := 9, nameIndex := 117, descriptorIndex := 122, attributes := #[] }, { accessFlags := 9, nameIndex := 117, descriptorIndex := 118, attributes := #[] }] 48 6 #[] #[{ accessFlags := 26, nameIndex := 61, descriptorIndex := 62, attributes := #[] }, { accessFlags := 26, nameIndex := 65, descriptorIndex := 62, attributes := #[] }, { accessFlags := 24, nameIndex := 430, descriptorIndex := 62, attributes := #[] }, { accessFlags := 4120, nameIndex := 46, descriptorIndex := 47, attributes := #[] }])
  fields := #[{ name := "HI_BYTE_SHIFT", type := .int, accessFlags := 26, slot := 0, constantValue := 0 }, { name := "LO_BYTE_SHIFT", type := .int, accessFlags := 26, slot := 1, constantValue := 0 }, { name := "MAX_LENGTH", type := .int, accessFlags := 24, slot := 2, constantValue := 0 }, { name := "$assertionsDisabled", type := .boolean, accessFlags := 4120, slot := 3, constantValue := 0 }]
  methods := #[k10m0, k10m1, k10m2, k10m3, k10m4, k10m5, k10m6, k10m7, k10m8]
  instanceTypes := #[]
  staticTypes := #[.int, .int, .int, .boolean]
  resolved := Array.replicate 635 none
  statics := some 1 }

def pool11 : Array CpInfo := pool [(9, u "<init>"), (6, .class_ 18), (1, u "java/lang/Object"), (0, u "()V"), (1, .class_ 23), (1, u "jdk/internal/util/ArraysSupport"), (0, u "LOG2_ARRAY_LONG_INDEX_SCALE"), (0, u "I"), (2, u "U"), (0, u "Ljdk/internal/misc/Unsafe;"), (8, u "BIG_ENDIAN"), (0, u "Z"), (8, u "LOG2_BYTE_BIT_SIZE"), (4, u "LOG2_ARRAY_INT_INDEX_SCALE"), (54, u "JLA"), (0, u "Ljdk/internal/access/JavaLangAccess;"), (11, u "LOG2_ARRAY_BOOLEAN_INDEX_SCALE"), (9, u "LOG2_ARRAY_BYTE_INDEX_SCALE"), (5, u "LOG2_ARRAY_CHAR_INDEX_SCALE"), (5, u "LOG2_ARRAY_SHORT_INDEX_SCALE"), (5, u "mismatch"), (12, u "LOG2_ARRAY_FLOAT_INDEX_SCALE"), (24, u "LOG2_ARRAY_DOUBLE_INDEX_SCALE"), (89, u "T_BOOLEAN"), (2, u "T_CHAR"), (1, u "T_FLOAT"), (1, u "T_DOUBLE"), (1, u "T_BYTE"), (1, u "T_SHORT"), (1, u "T_INT"), (1, u "T_LONG"), (1, u "SOFT_MAX_ARRAY_LENGTH"), (42, u "([BI[BII)I")] 40

def k11m0 : Method := { name := "<init>", desc := "()V", sig := { parameters := [], returnType := none }, accessFlags := 2, code := none }
def k11c1 : Code := { maxStack := 8, maxLocals := 8, code := jdk_48_method_14_code, exceptionTable := #[], attributes := #[] }
def k11m1 : Method := { name := "mismatch", desc := "([BI[BII)I", sig := { parameters := [(.array .byte), .int, (.array .byte), .int, .int], returnType := some .int }, accessFlags := 9, code := some k11c1 }
/-- jdk/internal/util/ArraysSupport -/
def k11 : Class := { plain "jdk/internal/util/ArraysSupport" (some 0) with
  accessFlags := 33
  interfaces := #[]
  cf := some (fileOf pool11 21 #[] #[{ accessFlags := 2, nameIndex := 9, descriptorIndex := 19, attributes := #[] }, { accessFlags := 9, nameIndex := 149, descriptorIndex := 337, attributes := #[] }] 33 16 #[] #[{ accessFlags := 24, nameIndex := 28, descriptorIndex := 29, attributes := #[] }, { accessFlags := 26, nameIndex := 38, descriptorIndex := 39, attributes := #[] }, { accessFlags := 25, nameIndex := 121, descriptorIndex := 25, attributes := #[] }, { accessFlags := 25, nameIndex := 131, descriptorIndex := 25, attributes := #[] }, { accessFlags := 25, nameIndex := 137, descriptorIndex := 25, attributes := #[] }, { accessFlags := 25, nameIndex := 143, descriptorIndex := 25, attributes := #[] }, { accessFlags := 25, nameIndex := 53, descriptorIndex := 25, attributes := #[] }, { accessFlags := 25, nameIndex := 24, descriptorIndex := 25, attributes := #[] }, { accessFlags := 25, nameIndex := 162, descriptorIndex := 25, attributes := #[] }, { accessFlags := 25, nameIndex := 187, descriptorIndex := 25, attributes := #[] }, { accessFlags := 26, nameIndex := 48, descriptorIndex := 25, attributes := #[] }, { accessFlags := 25, nameIndex := 277, descriptorIndex := 25, attributes := #[] }, { accessFlags := 25, nameIndex := 280, descriptorIndex := 25, attributes := #[] }, { accessFlags := 25, nameIndex := 282, descriptorIndex := 25, attributes := #[] }, { accessFlags := 25, nameIndex := 284, descriptorIndex := 25, attributes := #[] }, { accessFlags := 25, nameIndex := 286, descriptorIndex := 25, attributes := #[] }, { accessFlags := 25, nameIndex := 288, descriptorIndex := 25, attributes := #[] }, { accessFlags := 25, nameIndex := 290, descriptorIndex := 25, attributes := #[] }, { accessFlags := 25, nameIndex := 292, descriptorIndex := 25, attributes := #[] }, { accessFlags := 26, nameIndex := 108, descriptorIndex := 109, attributes := #[] }, { accessFlags := 25, nameIndex := 294, descriptorIndex := 25, attributes := #[] }])
  fields := #[{ name := "U", type := (.object "jdk/internal/misc/Unsafe"), accessFlags := 24, slot := 0, constantValue := 0 }, { name := "BIG_ENDIAN", type := .boolean, accessFlags := 26, slot := 1, constantValue := 0 }, { name := "LOG2_ARRAY_BOOLEAN_INDEX_SCALE", type := .int, accessFlags := 25, slot := 2, constantValue := 0 }, { name := "LOG2_ARRAY_BYTE_INDEX_SCALE", type := .int, accessFlags := 25, slot := 3, constantValue := 0 }, { name := "LOG2_ARRAY_CHAR_INDEX_SCALE", type := .int, accessFlags := 25, slot := 4, constantValue := 0 }, { name := "LOG2_ARRAY_SHORT_INDEX_SCALE", type := .int, accessFlags := 25, slot := 5, constantValue := 0 }, { name := "LOG2_ARRAY_INT_INDEX_SCALE", type := .int, accessFlags := 25, slot := 6, constantValue := 0 }, { name := "LOG2_ARRAY_LONG_INDEX_SCALE", type := .int, accessFlags := 25, slot := 7, constantValue := 0 }, { name := "LOG2_ARRAY_FLOAT_INDEX_SCALE", type := .int, accessFlags := 25, slot := 8, constantValue := 0 }, { name := "LOG2_ARRAY_DOUBLE_INDEX_SCALE", type := .int, accessFlags := 25, slot := 9, constantValue := 0 }, { name := "LOG2_BYTE_BIT_SIZE", type := .int, accessFlags := 26, slot := 10, constantValue := 0 }, { name := "T_BOOLEAN", type := .int, accessFlags := 25, slot := 11, constantValue := 0 }, { name := "T_CHAR", type := .int, accessFlags := 25, slot := 12, constantValue := 0 }, { name := "T_FLOAT", type := .int, accessFlags := 25, slot := 13, constantValue := 0 }, { name := "T_DOUBLE", type := .int, accessFlags := 25, slot := 14, constantValue := 0 }, { name := "T_BYTE", type := .int, accessFlags := 25, slot := 15, constantValue := 0 }, { name := "T_SHORT", type := .int, accessFlags := 25, slot := 16, constantValue := 0 }, { name := "T_INT", type := .int, accessFlags := 25, slot := 17, constantValue := 0 }, { name := "T_LONG", type := .int, accessFlags := 25, slot := 18, constantValue := 0 }, { name := "JLA", type := (.object "jdk/internal/access/JavaLangAccess"), accessFlags := 26, slot := 19, constantValue := 0 }, { name := "SOFT_MAX_ARRAY_LENGTH", type := .int, accessFlags := 25, slot := 20, constantValue := 0 }]
  methods := #[k11m0, k11m1]
  instanceTypes := #[]
  staticTypes := #[(.object "jdk/internal/misc/Unsafe"), .boolean, .int, .int, .int, .int, .int, .int, .int, .int, .int, .int, .int, .int, .int, .int, .int, .int, .int, (.object "jdk/internal/access/JavaLangAccess"), .int]
  resolved := Array.replicate 378 none
  statics := none }

def pool12 : Array CpInfo := pool [(4, .class_ 6), (1, u "java/lang/Object"), (0, u "<init>"), (0, u "()V"), (5, .class_ 16), (1, u "java/lang/StringLatin1"), (104, u "$assertionsDisabled"), (0, u "Z"), (98, .class_ 223), (1, u "java/lang/StringLatin1$LinesSpliterator"), (166, .class_ 391), (0, u "java/lang/StringLatin1$CharsSpliterator")] 3

def k12m0 : Method := { name := "<init>", desc := "()V", sig := { parameters := [], returnType := none }, accessFlags := 0, code := none }
/-- java/lang/StringLatin1 -/
def k12 : Class := { plain "java/lang/StringLatin1" (some 0) with
  accessFlags := 48
  interfaces := #[]
  cf := some (fileOf pool12 14 #[.nestMembers #[390, 221]] #[{ accessFlags := 0, nameIndex := 7, descriptorIndex := 8, attributes := #[] }] 48 4 #[] #[{ accessFlags := 4120, nameIndex := 121, descriptorIndex := 122, attributes := #[] }])
  fields := #[{ name := "$assertionsDisabled", type := .boolean, accessFlags := 4120, slot := 0, constantValue := 0 }]
  methods := #[k12m0]
  instanceTypes := #[]
  staticTypes := #[.boolean]
  resolved := Array.replicate 395 none
  statics := none }

def pool13 : Array CpInfo := pool [(2, .class_ 4), (1, u "java/lang/Object"), (0, u "<init>"), (0, u "()V"), (17, .class_ 26), (1, u "jdk/internal/util/Preconditions"), (28, .class_ 56), (0, u "jdk/internal/util/Preconditions$4"), (57, .class_ 115), (0, u "jdk/internal/util/Preconditions$1"), (7, u "SIOOBE_FORMATTER"), (0, u "Ljava/util/function/BiFunction;"), (0, .class_ 126), (0, u "jdk/internal/util/Preconditions$2"), (3, u "AIOOBE_FORMATTER"), (0, .class_ 132), (0, u "jdk/internal/util/Preconditions$3"), (3, u "IOOBE_FORMATTER")] 57

def k13m0 : Method := { name := "<init>", desc := "()V", sig := { parameters := [], returnType := none }, accessFlags := 1, code := none }
/-- jdk/internal/util/Preconditions -/
def k13 : Class := { plain "jdk/internal/util/Preconditions" (some 0) with
  accessFlags := 33
  interfaces := #[]
  cf := some (fileOf pool13 24 #[.nestMembers #[55, 131, 125, 114]] #[{ accessFlags := 1, nameIndex := 5, descriptorIndex := 6, attributes := #[] }] 33 2 #[] #[{ accessFlags := 25, nameIndex := 123, descriptorIndex := 124, attributes := #[] }, { accessFlags := 25, nameIndex := 130, descriptorIndex := 124, attributes := #[] }, { accessFlags := 25, nameIndex := 136, descriptorIndex := 124, attributes := #[] }])
  fields := #[{ name := "SIOOBE_FORMATTER", type := (.object "java/util/function/BiFunction"), accessFlags := 25, slot := 0, constantValue := 0 }, { name := "AIOOBE_FORMATTER", type := (.object "java/util/function/BiFunction"), accessFlags := 25, slot := 1, constantValue := 0 }, { name := "IOOBE_FORMATTER", type := (.object "java/util/function/BiFunction"), accessFlags := 25, slot := 2, constantValue := 0 }]
  methods := #[k13m0]
  instanceTypes := #[]
  staticTypes := #[(.object "java/util/function/BiFunction"), (.object "java/util/function/BiFunction"), (.object "java/util/function/BiFunction")]
  resolved := Array.replicate 194 none
  statics := some 2 }

def pool14 : Array CpInfo := pool [(1, u "java/lang/Cloneable"), (0, .class_ 1), (0, u "java/lang/Object"), (0, .class_ 3)] 3

/-- java/lang/Cloneable -/
def k14 : Class := { plain "java/lang/Cloneable" (some 0) with
  accessFlags := 1537
  interfaces := #[]
  cf := some (fileOf pool14 2 #[] #[] 1537 4 #[] #[])
  fields := #[]
  methods := #[]
  instanceTypes := #[]
  staticTypes := #[]
  resolved := Array.replicate 8 none
  statics := none }

/-- the primitive byte -/
def k15 : Class := { plain "byte" none with kind := .primitive 'B', accessFlags := 0x411 }
/-- [B -/
def k16 : Class := { plain "[B" (some 0) with kind := .array 15 .byte, interfaces := #[14, 2], accessFlags := 1041 }

/-- the primitive char -/
def k17 : Class := { plain "char" none with kind := .primitive 'C', accessFlags := 0x411 }
/-- [C -/
def k18 : Class := { plain "[C" (some 0) with kind := .array 17 .char, interfaces := #[14, 2], accessFlags := 1041 }

/-- the primitive int -/
def k19 : Class := { plain "int" none with kind := .primitive 'I', accessFlags := 0x411 }
/-- [I -/
def k20 : Class := { plain "[I" (some 0) with kind := .array 19 .int, interfaces := #[14, 2], accessFlags := 1041 }

def heap : Heap := #[{ cls := 7, slots := #[.long 0, .int 1, .null, .int 0, .null, .int 0, .int 0], vm := .statics 7 },
  { cls := 10, slots := #[.int 0, .int 8, .int 0, .int 1], vm := .statics 10 },
  { cls := 13, slots := #[.null, .null, .null], vm := .statics 13 }]
def classes : Array Class := #[k0, k1, k2, k3, k4, k5, k6, k7, k8, k9, k10, k11, k12, k13, k14, k15, k16, k17, k18, k19, k20]
def interned : List (Array UInt16 × Addr) := []
def slotsUsed : Nat := 14
def theMethod : MethodId := ⟨1, 1⟩
def args0 : Array Value := #[.int 1, .int 34, .int 7, .int 9]
def aboutOver (below : List Frame) : State where
  vm := { classes := classes, interned := interned.toArray }
  heap := heap
  slotsUsed := slotsUsed
  threads := #[{ frames := .invoking theMethod args0 :: below }]
def below0 : List Frame := [.native { method := ⟨0, 0⟩, args := #[] }]
def about1 : State := aboutOver below0
def p0 : Program := .bare "" "" ""
def e0 : Env := launch0.env 0 0 0
theorem w_frames : about1.frames = Frame.invoking theMethod args0 :: below0 := rfl
set_option maxRecDepth 65536 in
theorem w_args : argsFit about1.vm theMethod args0 = true := by decide +kernel
set_option maxRecDepth 65536 in
theorem w_heap : heapFits about1 = true := by decide +kernel
set_option maxRecDepth 65536 in
theorem w_runnable : about1.curStatus? = some .runnable := by decide +kernel
set_option maxRecDepth 65536 in
theorem w_alone : about1.alone = true := by decide +kernel
set_option maxRecDepth 65536 in
theorem w_named : about1.methodNamed? x = some theMethod := by decide +kernel
set_option maxRecDepth 65536 in
theorem w_hears : about1.hears theMethod below0 = true := by decide +kernel
set_option maxRecDepth 65536 in
theorem w_ripe : about1.ripe theMethod args0 below0 = true := by decide +kernel
theorem w_running : about1.status = .running := rfl
set_option maxRecDepth 65536 in
theorem w_room : about1.hasRoom e0.platform room_1 = true :=
  launch0.hasRoom_least _ room_1 (by decide +kernel) (by decide +kernel) (by decide +kernel) (by decide +kernel) (by decide +kernel) (by decide +kernel)
theorem allAtoms_all (ts : List Jvm.Cond) (a : Array Jvm.Value) (st : Jvm.State) : (allAtoms ts).before a st = ts.all (fun c => c.before a st) := by
  induction ts with
  | nil => rfl
  | cons c t ih =>
    show (Jvm.Cond.and c (allAtoms t)).before a st = _
    rw [Jvm.Cond.before_and, ih, List.all_cons]
def words1 : List Jvm.Cond := Jvm.Cond.code x code maxLocals ret :: tables_1
/-- a 'code' word, met by the world's own term for the bytes: nothing is compared byte by byte -/
theorem code_word {y : MethodName} {bytes : ByteArray} {mx : Nat} {rt : Option FieldType} {a : Array Value} {s : State} {m : MethodId} {meth : Method} {c : Code} (h1 : s.methodNamed? y = some m) (h2 : s.vm.method? m = some meth) (h3 : meth.code = some c) (h4 : c.code = bytes)
    (h5 : (c.maxLocals == mx && c.exceptionTable.isEmpty && decide (c.maxStack ≤ mostOperands) && decide (meth.sig.returnType = rt) && !meth.locks && decide (parseMethodDescriptor y.desc = some meth.sig)) = true) : (Jvm.Cond.code y bytes mx rt).before a s = true := by
  simp only [Bool.and_eq_true, beq_iff_eq, Bool.not_eq_true', decide_eq_true_eq] at h5
  obtain ⟨⟨⟨⟨⟨g1, g2⟩, g3⟩, g4⟩, g5⟩, g6⟩ := h5
  simp [Cond.before, Cond.holds, Cond.value, h1, h2, h3, h4, g1, g2, g3, g4, g5, g6]
def isCode : Jvm.Cond → Bool
  | .code _ _ _ _ => true
  | _ => false
theorem all_split {L : List Jvm.Cond} {P : Jvm.Cond → Bool} (h1 : L.all (fun c => isCode c || P c) = true) (h2 : ∀ c ∈ L.filter isCode, P c = true) : L.all P = true := by
  refine List.all_eq_true.mpr fun c hc => ?_
  have h := List.all_eq_true.mp h1 c hc
  rcases Bool.eq_false_or_eq_true (isCode c) with hi | hi
  · exact h2 c (List.mem_filter.mpr ⟨hc, hi⟩)
  · simpa [hi] using h
set_option maxRecDepth 65536 in
theorem w_c0 : (Jvm.Cond.code x code maxLocals ret).before args0 about1 = true := code_word (m := ⟨1, 1⟩) (meth := k1m1) (c := k1c1) (by decide +kernel) rfl rfl rfl (by decide +kernel)
set_option maxRecDepth 65536 in
theorem w_c1 : (Jvm.Cond.code ({ cls := "java/lang/String", name := "<init>", desc := "([C)V" } : Jvm.MethodName) jdk_42_method_3_code (2 : Nat) (Option.none : Option Jvm.ClassFile.FieldType)).before args0 about1 = true := code_word (m := ⟨7, 1⟩) (meth := k7m1) (c := k7c1) (by decide +kernel) rfl rfl rfl (by decide +kernel)
set_option maxRecDepth 65536 in
theorem w_c2 : (Jvm.Cond.code ({ cls := "java/lang/String", name := "<init>", desc := "([CIILjava/lang/Void;)V" } : Jvm.MethodName) jdk_42_method_149_code (6 : Nat) (Option.none : Option Jvm.ClassFile.FieldType)).before args0 about1 = true := code_word (m := ⟨7, 5⟩) (meth := k7m5) (c := k7c5) (by decide +kernel) rfl rfl rfl (by decide +kernel)
set_option maxRecDepth 65536 in
theorem w_c3 : (Jvm.Cond.code ({ cls := "java/lang/Object", name := "<init>", desc := "()V" } : Jvm.MethodName) object_method_1_code (1 : Nat) (Option.none : Option Jvm.ClassFile.FieldType)).before args0 about1 = true := code_word (m := ⟨0, 0⟩) (meth := k0m0) (c := k0c0) (by decide +kernel) rfl rfl rfl (by decide +kernel)
set_option maxRecDepth 65536 in
theorem w_c4 : (Jvm.Cond.code ({ cls := "com/example/alcance/alcance/Identifiers", name := "isQuoted", desc := "(Ljava/lang/String;)Z" } : Jvm.MethodName) prog_3_method_4_code (1 : Nat) (Option.some Jvm.ClassFile.FieldType.boolean)).before args0 about1 = true := code_word (m := ⟨9, 0⟩) (meth := k9m0) (c := k9c0) (by decide +kernel) rfl rfl rfl (by decide +kernel)
set_option maxRecDepth 65536 in
theorem w_c5 : (Jvm.Cond.code ({ cls := "java/lang/String", name := "startsWith", desc := "(Ljava/lang/String;)Z" } : Jvm.MethodName) jdk_42_method_76_code (2 : Nat) (Option.some Jvm.ClassFile.FieldType.boolean)).before args0 about1 = true := code_word (m := ⟨7, 4⟩) (meth := k7m4) (c := k7c4) (by decide +kernel) rfl rfl rfl (by decide +kernel)
set_option maxRecDepth 65536 in
theorem w_c6 : (Jvm.Cond.code ({ cls := "java/lang/String", name := "startsWith", desc := "(Ljava/lang/String;I)Z" } : Jvm.MethodName) jdk_42_method_75_code (8 : Nat) (Option.some Jvm.ClassFile.FieldType.boolean)).before args0 about1 = true := code_word (m := ⟨7, 3⟩) (meth := k7m3) (c := k7c3) (by decide +kernel) rfl rfl rfl (by decide +kernel)
set_option maxRecDepth 65536 in
theorem w_c7 : (Jvm.Cond.code ({ cls := "java/lang/String", name := "length", desc := "()I" } : Jvm.MethodName) jdk_42_method_54_code (1 : Nat) (Option.some Jvm.ClassFile.FieldType.int)).before args0 about1 = true := code_word (m := ⟨7, 2⟩) (meth := k7m2) (c := k7c2) (by decide +kernel) rfl rfl rfl (by decide +kernel)
set_option maxRecDepth 65536 in
theorem w_c8 : (Jvm.Cond.code ({ cls := "java/lang/String", name := "coder", desc := "()B" } : Jvm.MethodName) jdk_42_method_152_code (1 : Nat) (Option.some Jvm.ClassFile.FieldType.byte)).before args0 about1 = true := code_word (m := ⟨7, 6⟩) (meth := k7m6) (c := k7c6) (by decide +kernel) rfl rfl rfl (by decide +kernel)
set_option maxRecDepth 65536 in
theorem w_c9 : (Jvm.Cond.code ({ cls := "java/lang/StringUTF16", name := "compress", desc := "([CII)[B" } : Jvm.MethodName) jdk_52_method_16_code (6 : Nat) (Option.some (Jvm.ClassFile.FieldType.array Jvm.ClassFile.FieldType.byte))).before args0 about1 = true := code_word (m := ⟨10, 7⟩) (meth := k10m7) (c := k10c7) (by decide +kernel) rfl rfl rfl (by decide +kernel)
set_option maxRecDepth 65536 in
theorem w_c10 : (Jvm.Cond.code ({ cls := "java/lang/StringUTF16", name := "compress", desc := "([CI[BII)I" } : Jvm.MethodName) jdk_52_method_21_code (7 : Nat) (Option.some Jvm.ClassFile.FieldType.int)).before args0 about1 = true := code_word (m := ⟨10, 8⟩) (meth := k10m8) (c := k10c8) (by decide +kernel) rfl rfl rfl (by decide +kernel)
set_option maxRecDepth 65536 in
theorem w_c11 : (Jvm.Cond.code ({ cls := "java/lang/StringUTF16", name := "coderFromArrayLen", desc := "([BI)B" } : Jvm.MethodName) jdk_52_method_15_code (2 : Nat) (Option.some Jvm.ClassFile.FieldType.byte)).before args0 about1 = true := code_word (m := ⟨10, 6⟩) (meth := k10m6) (c := k10c6) (by decide +kernel) rfl rfl rfl (by decide +kernel)
set_option maxRecDepth 65536 in
theorem w_c12 : (Jvm.Cond.code ({ cls := "jdk/internal/util/ArraysSupport", name := "mismatch", desc := "([BI[BII)I" } : Jvm.MethodName) jdk_48_method_14_code (8 : Nat) (Option.some Jvm.ClassFile.FieldType.int)).before args0 about1 = true := code_word (m := ⟨11, 1⟩) (meth := k11m1) (c := k11c1) (by decide +kernel) rfl rfl rfl (by decide +kernel)
set_option maxRecDepth 65536 in
theorem w_c13 : (Jvm.Cond.code ({ cls := "java/lang/StringUTF16", name := "toBytes", desc := "([CII)[B" } : Jvm.MethodName) jdk_52_method_14_code (5 : Nat) (Option.some (Jvm.ClassFile.FieldType.array Jvm.ClassFile.FieldType.byte))).before args0 about1 = true := code_word (m := ⟨10, 5⟩) (meth := k10m5) (c := k10c5) (by decide +kernel) rfl rfl rfl (by decide +kernel)
set_option maxRecDepth 65536 in
theorem w_c14 : (Jvm.Cond.code ({ cls := "java/lang/StringUTF16", name := "newBytesFor", desc := "(I)[B" } : Jvm.MethodName) jdk_52_method_2_code (1 : Nat) (Option.some (Jvm.ClassFile.FieldType.array Jvm.ClassFile.FieldType.byte))).before args0 about1 = true := code_word (m := ⟨10, 1⟩) (meth := k10m1) (c := k10c1) (by decide +kernel) rfl rfl rfl (by decide +kernel)
set_option maxRecDepth 65536 in
theorem w_c15 : (Jvm.Cond.code ({ cls := "java/lang/StringUTF16", name := "newBytesLength", desc := "(I)I" } : Jvm.MethodName) jdk_52_method_3_code (1 : Nat) (Option.some Jvm.ClassFile.FieldType.int)).before args0 about1 = true := code_word (m := ⟨10, 2⟩) (meth := k10m2) (c := k10c2) (by decide +kernel) rfl rfl rfl (by decide +kernel)
set_option maxRecDepth 65536 in
theorem w_c16 : (Jvm.Cond.code ({ cls := "java/lang/StringUTF16", name := "putChar", desc := "([BII)V" } : Jvm.MethodName) jdk_52_method_4_code (3 : Nat) (Option.none : Option Jvm.ClassFile.FieldType)).before args0 about1 = true := code_word (m := ⟨10, 3⟩) (meth := k10m3) (c := k10c3) (by decide +kernel) rfl rfl rfl (by decide +kernel)
set_option maxRecDepth 65536 in
theorem w_c17 : (Jvm.Cond.code ({ cls := "java/lang/StringUTF16", name := "getChar", desc := "([BI)C" } : Jvm.MethodName) jdk_52_method_5_code (2 : Nat) (Option.some Jvm.ClassFile.FieldType.char)).before args0 about1 = true := code_word (m := ⟨10, 4⟩) (meth := k10m4) (c := k10c4) (by decide +kernel) rfl rfl rfl (by decide +kernel)
def codes1 : List Jvm.Cond := [Jvm.Cond.code x code maxLocals ret, Jvm.Cond.code ({ cls := "java/lang/String", name := "<init>", desc := "([C)V" } : Jvm.MethodName) jdk_42_method_3_code (2 : Nat) (Option.none : Option Jvm.ClassFile.FieldType), Jvm.Cond.code ({ cls := "java/lang/String", name := "<init>", desc := "([CIILjava/lang/Void;)V" } : Jvm.MethodName) jdk_42_method_149_code (6 : Nat) (Option.none : Option Jvm.ClassFile.FieldType), Jvm.Cond.code ({ cls := "java/lang/Object", name := "<init>", desc := "()V" } : Jvm.MethodName) object_method_1_code (1 : Nat) (Option.none : Option Jvm.ClassFile.FieldType), Jvm.Cond.code ({ cls := "com/example/alcance/alcance/Identifiers", name := "isQuoted", desc := "(Ljava/lang/String;)Z" } : Jvm.MethodName) prog_3_method_4_code (1 : Nat) (Option.some Jvm.ClassFile.FieldType.boolean), Jvm.Cond.code ({ cls := "java/lang/String", name := "startsWith", desc := "(Ljava/lang/String;)Z" } : Jvm.MethodName) jdk_42_method_76_code (2 : Nat) (Option.some Jvm.ClassFile.FieldType.boolean), Jvm.Cond.code ({ cls := "java/lang/String", name := "startsWith", desc := "(Ljava/lang/String;I)Z" } : Jvm.MethodName) jdk_42_method_75_code (8 : Nat) (Option.some Jvm.ClassFile.FieldType.boolean), Jvm.Cond.code ({ cls := "java/lang/String", name := "length", desc := "()I" } : Jvm.MethodName) jdk_42_method_54_code (1 : Nat) (Option.some Jvm.ClassFile.FieldType.int), Jvm.Cond.code ({ cls := "java/lang/String", name := "coder", desc := "()B" } : Jvm.MethodName) jdk_42_method_152_code (1 : Nat) (Option.some Jvm.ClassFile.FieldType.byte), Jvm.Cond.code ({ cls := "java/lang/StringUTF16", name := "compress", desc := "([CII)[B" } : Jvm.MethodName) jdk_52_method_16_code (6 : Nat) (Option.some (Jvm.ClassFile.FieldType.array Jvm.ClassFile.FieldType.byte)), Jvm.Cond.code ({ cls := "java/lang/StringUTF16", name := "compress", desc := "([CI[BII)I" } : Jvm.MethodName) jdk_52_method_21_code (7 : Nat) (Option.some Jvm.ClassFile.FieldType.int), Jvm.Cond.code ({ cls := "java/lang/StringUTF16", name := "coderFromArrayLen", desc := "([BI)B" } : Jvm.MethodName) jdk_52_method_15_code (2 : Nat) (Option.some Jvm.ClassFile.FieldType.byte), Jvm.Cond.code ({ cls := "jdk/internal/util/ArraysSupport", name := "mismatch", desc := "([BI[BII)I" } : Jvm.MethodName) jdk_48_method_14_code (8 : Nat) (Option.some Jvm.ClassFile.FieldType.int), Jvm.Cond.code ({ cls := "java/lang/StringUTF16", name := "toBytes", desc := "([CII)[B" } : Jvm.MethodName) jdk_52_method_14_code (5 : Nat) (Option.some (Jvm.ClassFile.FieldType.array Jvm.ClassFile.FieldType.byte)), Jvm.Cond.code ({ cls := "java/lang/StringUTF16", name := "newBytesFor", desc := "(I)[B" } : Jvm.MethodName) jdk_52_method_2_code (1 : Nat) (Option.some (Jvm.ClassFile.FieldType.array Jvm.ClassFile.FieldType.byte)), Jvm.Cond.code ({ cls := "java/lang/StringUTF16", name := "newBytesLength", desc := "(I)I" } : Jvm.MethodName) jdk_52_method_3_code (1 : Nat) (Option.some Jvm.ClassFile.FieldType.int), Jvm.Cond.code ({ cls := "java/lang/StringUTF16", name := "putChar", desc := "([BII)V" } : Jvm.MethodName) jdk_52_method_4_code (3 : Nat) (Option.none : Option Jvm.ClassFile.FieldType), Jvm.Cond.code ({ cls := "java/lang/StringUTF16", name := "getChar", desc := "([BI)C" } : Jvm.MethodName) jdk_52_method_5_code (2 : Nat) (Option.some Jvm.ClassFile.FieldType.char)]
set_option maxRecDepth 65536 in
theorem codes_eq : words1.filter isCode = codes1 := rfl
theorem w_codes : ∀ c ∈ words1.filter isCode, c.before args0 about1 = true := by
  rw [codes_eq]
  intro c hc
  simp only [codes1, List.mem_cons, List.not_mem_nil, or_false] at hc
  rcases hc with rfl | rfl | rfl | rfl | rfl | rfl | rfl | rfl | rfl | rfl | rfl | rfl | rfl | rfl | rfl | rfl | rfl | rfl
  · exact w_c0
  · exact w_c1
  · exact w_c2
  · exact w_c3
  · exact w_c4
  · exact w_c5
  · exact w_c6
  · exact w_c7
  · exact w_c8
  · exact w_c9
  · exact w_c10
  · exact w_c11
  · exact w_c12
  · exact w_c13
  · exact w_c14
  · exact w_c15
  · exact w_c16
  · exact w_c17
set_option maxRecDepth 65536 in
theorem w_t1 : (words1.take 24).all (fun c => isCode c || c.before args0 about1) = true := by decide +kernel
set_option maxRecDepth 65536 in
theorem w_t2 : ((words1.drop 24).take 24).all (fun c => isCode c || c.before args0 about1) = true := by decide +kernel
set_option maxRecDepth 65536 in
theorem w_t3 : (((words1.drop 24).drop 24).take 24).all (fun c => isCode c || c.before args0 about1) = true := by decide +kernel
set_option maxRecDepth 65536 in
theorem w_t4 : (((words1.drop 24).drop 24).drop 24).all (fun c => isCode c || c.before args0 about1) = true := by decide +kernel
theorem w_tables : (allAtoms (Jvm.Cond.code x code maxLocals ret :: tables_1)).before args0 about1 = true := by
  rw [allAtoms_all]
  show words1.all (fun c => c.before args0 about1) = true
  refine all_split ?_ w_codes
  rw [← List.take_append_drop 24 words1, List.all_append, w_t1, ← List.take_append_drop 24 (words1.drop 24), List.all_append, w_t2, ← List.take_append_drop 24 ((words1.drop 24).drop 24), List.all_append, w_t3, w_t4]
  rfl
set_option maxRecDepth 65536 in
theorem w_rest : rest_1_c.before args0 about1 = true := by decide +kernel
set_option maxRecDepth 65536 in
theorem w_case : (Jvm.Cond.and given_1 narrow_1).before args0 about1 = true := by decide +kernel
set_option maxRecDepth 65536 in
theorem w_consts : constsHeld consts_1 about1 := Jvm.Lit.constsHeldB_iff.mp (by decide +kernel)
theorem w_applies : (headSpec (Jvm.Cond.code x code maxLocals ret :: tables_1) room_1).applies x e0.platform about1 = true :=
  (Spec.applies_iff w_frames).mpr ⟨w_running, w_runnable, w_alone, w_named, w_hears, w_ripe, w_room, w_tables⟩
theorem atStart : AtStart classFile x code maxLocals ret World_1 tables_1 room_1 Calls_1 rest_1 Pre_1 launch0 p0 e0 about1 theMethod args0 below0 :=
  ⟨lists_1, trivial, launch0.admits_env _ _ _, launch0.least_env, fairChoices_fair.cas, fairChoices_fair.clock, w_frames, w_args, w_heap, w_applies, ⟨w_consts, trivial⟩, w_rest, w_case⟩
end start1
theorem witness_1 : WitnessClaimed_1 := ⟨start1.p0, start1.e0, start1.about1, start1.theMethod, start1.args0, start1.below0, start1.atStart⟩
end Jvm.Pilot.@@N@@
