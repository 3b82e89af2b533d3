import JvmDerived
import JvmDerived.Pilot.@@N@@Statement
import JvmDerived.Pilot.@@N@@Code
set_option linter.unusedVariables false
set_option linter.unusedSimpArgs false
@@BLOCK:NumsL.lean.txt@@
namespace Jvm.Pilot.@@N@@
open Jvm Jvm.ClassFile Sem Op Lib Jvm.Free Jvm.Stand Jvm.LawKit Jvm.RoadKit Bundle Jvm.Pilot.@@N@@.Jvm.D
def own_E (p : Program) (e : Env) (below : List Frame) (P : State → Outcome → Prop) (T : State) (g : JFrame) : Prop := ∃ t o, Steps p.tables e below (T.setTop g) t ∧ P t o
theorem own_go {p : Program} {e : Env} {below : List Frame} {P : State → Outcome → Prop} {T T' : State} {g g' : JFrame} (st : ∀ t, Steps p.tables e below (T'.setTop g') t → Steps p.tables e below (T.setTop g) t) (h : own_E p e below P T' g') : own_E p e below P T g := by
  obtain ⟨t, o, h1, h2⟩ := h
  exact ⟨t, o, st t h1, h2⟩
def own_C (p : Program) (s : State) (m : MethodId) (c : Code) (bytes : ByteArray) (own : String) (Z : State) (ml : Nat) : Prop := p.tables.exec = Jvm.exec ∧ c.code = bytes ∧ Z.Warmed39 s.vm ∧ s.vm.findClass own = some m.cls ∧ c.maxLocals = ml
def own_R (s : State) (below : List Frame) (Q : Option Value → Heap → List Loc → Prop) (k n : Nat) : State → Outcome → Prop := fun t o => t.status = .running ∧ Ended t below o ∧ ∃ v L, o = .returned v ∧ Q v t.heap L ∧ FrameEnd s o t L k n
section Own
variable {p : Program} {l : Launch} {e : Env} {R : Room} {s : State} {m : MethodId} {args : Array Value} {below : List Frame} {meth : Method} {c : Code} {T : State} {locs : List Loc} {cells slots : Nat} {bytes : ByteArray} {own : String} {Z : State} {ml : Nat} {P : State → Outcome → Prop} {pc pc' : Nat} {L L' : Array Slot} {S : List Value} {a0 : Array Value} {h : Heap}
theorem own_aloadN (C : own_C p s m c bytes own Z ml) (X : Stand p l e R s m args below meth c T locs cells slots) {k : Fin 4} {v : Value} (hd : decode bytes pc = .ok (.aload_n k, 1)) (hl : L[k.val]? = some (.val v)) (hv : v.isRef = true) (hp : pc + 1 = pc') (K : own_E p e below P T (mkF m pc' L (v :: S))) : own_E p e below P T (mkF m pc L S) := by
  subst hp
  exact own_go (fun t k => XS.aloadN X.here C.1 rfl (hb C.2.1 hd) hl hv k) K
theorem own_aload (C : own_C p s m c bytes own Z ml) (X : Stand p l e R s m args below meth c T locs cells slots) {k : Nat} {v : Value} (hd : decode bytes pc = .ok (.aload k, 2)) (hl : L[k]? = some (.val v)) (hv : v.isRef = true) (hp : pc + 2 = pc') (K : own_E p e below P T (mkF m pc' L (v :: S))) : own_E p e below P T (mkF m pc L S) := by
  subst hp
  exact own_go (fun t k => XS.aload X.here C.1 rfl (hb C.2.1 hd) hl hv k) K
theorem own_iloadN (C : own_C p s m c bytes own Z ml) (X : Stand p l e R s m args below meth c T locs cells slots) {k : Fin 4} {v : Int32} (hd : decode bytes pc = .ok (.iload_n k, 1)) (hl : L[k.val]? = some (.val (.int v))) (hp : pc + 1 = pc') (K : own_E p e below P T (mkF m pc' L (.int v :: S))) : own_E p e below P T (mkF m pc L S) := by
  subst hp
  exact own_go (fun t k => XS.iloadN X.here C.1 rfl (hb C.2.1 hd) hl k) K
theorem own_iload (C : own_C p s m c bytes own Z ml) (X : Stand p l e R s m args below meth c T locs cells slots) {k : Nat} {v : Int32} (hd : decode bytes pc = .ok (.iload k, 2)) (hl : L[k]? = some (.val (.int v))) (hp : pc + 2 = pc') (K : own_E p e below P T (mkF m pc' L (.int v :: S))) : own_E p e below P T (mkF m pc L S) := by
  subst hp
  exact own_go (fun t k => XS.iload X.here C.1 rfl (hb C.2.1 hd) hl k) K
theorem own_istoreN (C : own_C p s m c bytes own Z ml) (X : Stand p l e R s m args below meth c T locs cells slots) {k : Fin 4} {v : Int32} (hd : decode bytes pc = .ok (.istore_n k, 1)) (hl : storeLocals L k.val (.int v) = some L') (hp : pc + 1 = pc') (K : own_E p e below P T (mkF m pc' L' S)) : own_E p e below P T (mkF m pc L (.int v :: S)) := by
  subst hp
  exact own_go (fun t k => XS.istoreN X.here C.1 rfl (hb C.2.1 hd) rfl hl k) K
theorem own_istore (C : own_C p s m c bytes own Z ml) (X : Stand p l e R s m args below meth c T locs cells slots) {k : Nat} {v : Int32} (hd : decode bytes pc = .ok (.istore k, 2)) (hl : storeLocals L k (.int v) = some L') (hp : pc + 2 = pc') (K : own_E p e below P T (mkF m pc' L' S)) : own_E p e below P T (mkF m pc L (.int v :: S)) := by
  subst hp
  exact own_go (fun t k => XS.istore X.here C.1 rfl (hb C.2.1 hd) rfl hl k) K
theorem own_lloadN (C : own_C p s m c bytes own Z ml) (X : Stand p l e R s m args below meth c T locs cells slots) {k : Fin 4} {v : Int64} (hd : decode bytes pc = .ok (.lload_n k, 1)) (hl : L[k.val]? = some (.val (.long v))) (hp : pc + 1 = pc') (K : own_E p e below P T (mkF m pc' L (.long v :: S))) : own_E p e below P T (mkF m pc L S) := by
  subst hp
  exact own_go (fun t k => XS.lloadN X.here C.1 rfl (hb C.2.1 hd) hl k) K
theorem own_lload (C : own_C p s m c bytes own Z ml) (X : Stand p l e R s m args below meth c T locs cells slots) {k : Nat} {v : Int64} (hd : decode bytes pc = .ok (.lload k, 2)) (hl : L[k]? = some (.val (.long v))) (hp : pc + 2 = pc') (K : own_E p e below P T (mkF m pc' L (.long v :: S))) : own_E p e below P T (mkF m pc L S) := by
  subst hp
  exact own_go (fun t k => XS.lload X.here C.1 rfl (hb C.2.1 hd) hl k) K
theorem own_lstoreN (C : own_C p s m c bytes own Z ml) (X : Stand p l e R s m args below meth c T locs cells slots) {k : Fin 4} {v : Int64} (hd : decode bytes pc = .ok (.lstore_n k, 1)) (hl : storeLocals L k.val (.long v) = some L') (hp : pc + 1 = pc') (K : own_E p e below P T (mkF m pc' L' S)) : own_E p e below P T (mkF m pc L (.long v :: S)) := by
  subst hp
  exact own_go (fun t k => XS.lstoreN X.here C.1 rfl (hb C.2.1 hd) rfl hl k) K
theorem own_lstore (C : own_C p s m c bytes own Z ml) (X : Stand p l e R s m args below meth c T locs cells slots) {k : Nat} {v : Int64} (hd : decode bytes pc = .ok (.lstore k, 2)) (hl : storeLocals L k (.long v) = some L') (hp : pc + 2 = pc') (K : own_E p e below P T (mkF m pc' L' S)) : own_E p e below P T (mkF m pc L (.long v :: S)) := by
  subst hp
  exact own_go (fun t k => XS.lstore X.here C.1 rfl (hb C.2.1 hd) rfl hl k) K
theorem own_astoreN (C : own_C p s m c bytes own Z ml) (X : Stand p l e R s m args below meth c T locs cells slots) {k : Fin 4} {v : Value} (hd : decode bytes pc = .ok (.astore_n k, 1)) (hv : v.isRef = true) (hl : storeLocals L k.val v = some L') (hp : pc + 1 = pc') (K : own_E p e below P T (mkF m pc' L' S)) : own_E p e below P T (mkF m pc L (v :: S)) := by
  subst hp
  exact own_go (fun t k => XS.astoreN X.here C.1 rfl (hb C.2.1 hd) rfl hv hl k) K
theorem own_astore (C : own_C p s m c bytes own Z ml) (X : Stand p l e R s m args below meth c T locs cells slots) {k : Nat} {v : Value} (hd : decode bytes pc = .ok (.astore k, 2)) (hv : v.isRef = true) (hl : storeLocals L k v = some L') (hp : pc + 2 = pc') (K : own_E p e below P T (mkF m pc' L' S)) : own_E p e below P T (mkF m pc L (v :: S)) := by
  subst hp
  exact own_go (fun t k => XS.astore X.here C.1 rfl (hb C.2.1 hd) rfl hv hl k) K
theorem own_iconst (C : own_C p s m c bytes own Z ml) (X : Stand p l e R s m args below meth c T locs cells slots) {i : Int} (z : Int32) (hd : decode bytes pc = .ok (.iconst i, 1)) (hz : Int32.ofInt i = z) (hp : pc + 1 = pc') (K : own_E p e below P T (mkF m pc' L (.int z :: S))) : own_E p e below P T (mkF m pc L S) := by
  subst hp hz
  exact own_go (fun t k => XS.iconst X.here C.1 rfl (hb C.2.1 hd) k) K
theorem own_bipush (C : own_C p s m c bytes own Z ml) (X : Stand p l e R s m args below meth c T locs cells slots) {i : Int} (z : Int32) (hd : decode bytes pc = .ok (.bipush i, 2)) (hz : (Int8.ofInt i).toInt32 = z) (hp : pc + 2 = pc') (K : own_E p e below P T (mkF m pc' L (.int z :: S))) : own_E p e below P T (mkF m pc L S) := by
  subst hp hz
  exact own_go (fun t k => XS.bipush X.here C.1 rfl (hb C.2.1 hd) k) K
theorem own_sipush (C : own_C p s m c bytes own Z ml) (X : Stand p l e R s m args below meth c T locs cells slots) {i : Int} (z : Int32) (hd : decode bytes pc = .ok (.sipush i, 3)) (hz : (Int16.ofInt i).toInt32 = z) (hp : pc + 3 = pc') (K : own_E p e below P T (mkF m pc' L (.int z :: S))) : own_E p e below P T (mkF m pc L S) := by
  subst hp hz
  exact own_go (fun t k => XS.sipush X.here C.1 rfl (hb C.2.1 hd) k) K
theorem own_lconst (C : own_C p s m c bytes own Z ml) (X : Stand p l e R s m args below meth c T locs cells slots) {i : Fin 2} (z : Int64) (hd : decode bytes pc = .ok (.lconst i, 1)) (hz : Int64.ofNat i = z) (hp : pc + 1 = pc') (K : own_E p e below P T (mkF m pc' L (.long z :: S))) : own_E p e below P T (mkF m pc L S) := by
  subst hp hz
  exact own_go (fun t k => XS.lconst X.here C.1 rfl (hb C.2.1 hd) k) K
theorem own_aconstNull (C : own_C p s m c bytes own Z ml) (X : Stand p l e R s m args below meth c T locs cells slots)  (hd : decode bytes pc = .ok (.aconst_null, 1)) (hp : pc + 1 = pc') (K : own_E p e below P T (mkF m pc' L (.null :: S))) : own_E p e below P T (mkF m pc L S) := by
  subst hp
  exact own_go (fun t k => XS.aconstNull X.here C.1 rfl (hb C.2.1 hd) k) K
theorem own_iadd (C : own_C p s m c bytes own Z ml) (X : Stand p l e R s m args below meth c T locs cells slots) {x y : Int32} (hd : decode bytes pc = .ok (.iadd, 1)) (hp : pc + 1 = pc') (K : own_E p e below P T (mkF m pc' L (.int (x + y) :: S))) : own_E p e below P T (mkF m pc L (.int y :: .int x :: S)) := by
  subst hp
  exact own_go (fun t k => XS.iadd X.here C.1 rfl (hb C.2.1 hd) rfl k) K
theorem own_ladd (C : own_C p s m c bytes own Z ml) (X : Stand p l e R s m args below meth c T locs cells slots) {x y : Int64} (hd : decode bytes pc = .ok (.ladd, 1)) (hp : pc + 1 = pc') (K : own_E p e below P T (mkF m pc' L (.long (x + y) :: S))) : own_E p e below P T (mkF m pc L (.long y :: .long x :: S)) := by
  subst hp
  exact own_go (fun t k => XS.ladd X.here C.1 rfl (hb C.2.1 hd) rfl k) K
theorem own_isub (C : own_C p s m c bytes own Z ml) (X : Stand p l e R s m args below meth c T locs cells slots) {x y : Int32} (hd : decode bytes pc = .ok (.isub, 1)) (hp : pc + 1 = pc') (K : own_E p e below P T (mkF m pc' L (.int (x - y) :: S))) : own_E p e below P T (mkF m pc L (.int y :: .int x :: S)) := by
  subst hp
  exact own_go (fun t k => XS.isub X.here C.1 rfl (hb C.2.1 hd) rfl k) K
theorem own_lsub (C : own_C p s m c bytes own Z ml) (X : Stand p l e R s m args below meth c T locs cells slots) {x y : Int64} (hd : decode bytes pc = .ok (.lsub, 1)) (hp : pc + 1 = pc') (K : own_E p e below P T (mkF m pc' L (.long (x - y) :: S))) : own_E p e below P T (mkF m pc L (.long y :: .long x :: S)) := by
  subst hp
  exact own_go (fun t k => XS.lsub X.here C.1 rfl (hb C.2.1 hd) rfl k) K
theorem own_imul (C : own_C p s m c bytes own Z ml) (X : Stand p l e R s m args below meth c T locs cells slots) {x y : Int32} (hd : decode bytes pc = .ok (.imul, 1)) (hp : pc + 1 = pc') (K : own_E p e below P T (mkF m pc' L (.int (x * y) :: S))) : own_E p e below P T (mkF m pc L (.int y :: .int x :: S)) := by
  subst hp
  exact own_go (fun t k => XS.imul X.here C.1 rfl (hb C.2.1 hd) rfl k) K
theorem own_lmul (C : own_C p s m c bytes own Z ml) (X : Stand p l e R s m args below meth c T locs cells slots) {x y : Int64} (hd : decode bytes pc = .ok (.lmul, 1)) (hp : pc + 1 = pc') (K : own_E p e below P T (mkF m pc' L (.long (x * y) :: S))) : own_E p e below P T (mkF m pc L (.long y :: .long x :: S)) := by
  subst hp
  exact own_go (fun t k => XS.lmul X.here C.1 rfl (hb C.2.1 hd) rfl k) K
theorem own_iand (C : own_C p s m c bytes own Z ml) (X : Stand p l e R s m args below meth c T locs cells slots) {x y : Int32} (hd : decode bytes pc = .ok (.iand, 1)) (hp : pc + 1 = pc') (K : own_E p e below P T (mkF m pc' L (.int (x &&& y) :: S))) : own_E p e below P T (mkF m pc L (.int y :: .int x :: S)) := by
  subst hp
  exact own_go (fun t k => XS.iand X.here C.1 rfl (hb C.2.1 hd) rfl k) K
theorem own_land (C : own_C p s m c bytes own Z ml) (X : Stand p l e R s m args below meth c T locs cells slots) {x y : Int64} (hd : decode bytes pc = .ok (.land, 1)) (hp : pc + 1 = pc') (K : own_E p e below P T (mkF m pc' L (.long (x &&& y) :: S))) : own_E p e below P T (mkF m pc L (.long y :: .long x :: S)) := by
  subst hp
  exact own_go (fun t k => XS.land X.here C.1 rfl (hb C.2.1 hd) rfl k) K
theorem own_ior (C : own_C p s m c bytes own Z ml) (X : Stand p l e R s m args below meth c T locs cells slots) {x y : Int32} (hd : decode bytes pc = .ok (.ior, 1)) (hp : pc + 1 = pc') (K : own_E p e below P T (mkF m pc' L (.int (x ||| y) :: S))) : own_E p e below P T (mkF m pc L (.int y :: .int x :: S)) := by
  subst hp
  exact own_go (fun t k => XS.ior X.here C.1 rfl (hb C.2.1 hd) rfl k) K
theorem own_lor (C : own_C p s m c bytes own Z ml) (X : Stand p l e R s m args below meth c T locs cells slots) {x y : Int64} (hd : decode bytes pc = .ok (.lor, 1)) (hp : pc + 1 = pc') (K : own_E p e below P T (mkF m pc' L (.long (x ||| y) :: S))) : own_E p e below P T (mkF m pc L (.long y :: .long x :: S)) := by
  subst hp
  exact own_go (fun t k => XS.lor X.here C.1 rfl (hb C.2.1 hd) rfl k) K
theorem own_ixor (C : own_C p s m c bytes own Z ml) (X : Stand p l e R s m args below meth c T locs cells slots) {x y : Int32} (hd : decode bytes pc = .ok (.ixor, 1)) (hp : pc + 1 = pc') (K : own_E p e below P T (mkF m pc' L (.int (x ^^^ y) :: S))) : own_E p e below P T (mkF m pc L (.int y :: .int x :: S)) := by
  subst hp
  exact own_go (fun t k => XS.ixor X.here C.1 rfl (hb C.2.1 hd) rfl k) K
theorem own_lxor (C : own_C p s m c bytes own Z ml) (X : Stand p l e R s m args below meth c T locs cells slots) {x y : Int64} (hd : decode bytes pc = .ok (.lxor, 1)) (hp : pc + 1 = pc') (K : own_E p e below P T (mkF m pc' L (.long (x ^^^ y) :: S))) : own_E p e below P T (mkF m pc L (.long y :: .long x :: S)) := by
  subst hp
  exact own_go (fun t k => XS.lxor X.here C.1 rfl (hb C.2.1 hd) rfl k) K
theorem own_ishl (C : own_C p s m c bytes own Z ml) (X : Stand p l e R s m args below meth c T locs cells slots) {x y : Int32} (hd : decode bytes pc = .ok (.ishl, 1)) (hp : pc + 1 = pc') (K : own_E p e below P T (mkF m pc' L (.int (x <<< (y &&& 31)) :: S))) : own_E p e below P T (mkF m pc L (.int y :: .int x :: S)) := by
  subst hp
  exact own_go (fun t k => XS.ishl X.here C.1 rfl (hb C.2.1 hd) rfl k) K
theorem own_ishr (C : own_C p s m c bytes own Z ml) (X : Stand p l e R s m args below meth c T locs cells slots) {x y : Int32} (hd : decode bytes pc = .ok (.ishr, 1)) (hp : pc + 1 = pc') (K : own_E p e below P T (mkF m pc' L (.int (x >>> (y &&& 31)) :: S))) : own_E p e below P T (mkF m pc L (.int y :: .int x :: S)) := by
  subst hp
  exact own_go (fun t k => XS.ishr X.here C.1 rfl (hb C.2.1 hd) rfl k) K
theorem own_iushr (C : own_C p s m c bytes own Z ml) (X : Stand p l e R s m args below meth c T locs cells slots) {x y : Int32} (hd : decode bytes pc = .ok (.iushr, 1)) (hp : pc + 1 = pc') (K : own_E p e below P T (mkF m pc' L (.int ((x.toUInt32 >>> (y &&& 31).toUInt32).toInt32) :: S))) : own_E p e below P T (mkF m pc L (.int y :: .int x :: S)) := by
  subst hp
  exact own_go (fun t k => XS.iushr X.here C.1 rfl (hb C.2.1 hd) rfl k) K
theorem own_lshl (C : own_C p s m c bytes own Z ml) (X : Stand p l e R s m args below meth c T locs cells slots) {x : Int64} {y : Int32} (hd : decode bytes pc = .ok (.lshl, 1)) (hp : pc + 1 = pc') (K : own_E p e below P T (mkF m pc' L (.long (x <<< (y &&& 0x3f).toInt64) :: S))) : own_E p e below P T (mkF m pc L (.int y :: .long x :: S)) := by
  subst hp
  exact own_go (fun t k => XS.lshl X.here C.1 rfl (hb C.2.1 hd) rfl k) K
theorem own_lshr (C : own_C p s m c bytes own Z ml) (X : Stand p l e R s m args below meth c T locs cells slots) {x : Int64} {y : Int32} (hd : decode bytes pc = .ok (.lshr, 1)) (hp : pc + 1 = pc') (K : own_E p e below P T (mkF m pc' L (.long (x >>> (y &&& 0x3f).toInt64) :: S))) : own_E p e below P T (mkF m pc L (.int y :: .long x :: S)) := by
  subst hp
  exact own_go (fun t k => XS.lshr X.here C.1 rfl (hb C.2.1 hd) rfl k) K
theorem own_lushr (C : own_C p s m c bytes own Z ml) (X : Stand p l e R s m args below meth c T locs cells slots) {x : Int64} {y : Int32} (hd : decode bytes pc = .ok (.lushr, 1)) (hp : pc + 1 = pc') (K : own_E p e below P T (mkF m pc' L (.long ((x.toUInt64 >>> (y &&& 0x3f).toInt64.toUInt64).toInt64) :: S))) : own_E p e below P T (mkF m pc L (.int y :: .long x :: S)) := by
  subst hp
  exact own_go (fun t k => XS.lushr X.here C.1 rfl (hb C.2.1 hd) rfl k) K
theorem own_ineg (C : own_C p s m c bytes own Z ml) (X : Stand p l e R s m args below meth c T locs cells slots) {x : Int32} (hd : decode bytes pc = .ok (.ineg, 1)) (hp : pc + 1 = pc') (K : own_E p e below P T (mkF m pc' L (.int (-x) :: S))) : own_E p e below P T (mkF m pc L (.int x :: S)) := by
  subst hp
  exact own_go (fun t k => XS.ineg X.here C.1 rfl (hb C.2.1 hd) rfl k) K
theorem own_lneg (C : own_C p s m c bytes own Z ml) (X : Stand p l e R s m args below meth c T locs cells slots) {x : Int64} (hd : decode bytes pc = .ok (.lneg, 1)) (hp : pc + 1 = pc') (K : own_E p e below P T (mkF m pc' L (.long (-x) :: S))) : own_E p e below P T (mkF m pc L (.long x :: S)) := by
  subst hp
  exact own_go (fun t k => XS.lneg X.here C.1 rfl (hb C.2.1 hd) rfl k) K
theorem own_i2l (C : own_C p s m c bytes own Z ml) (X : Stand p l e R s m args below meth c T locs cells slots) {x : Int32} (hd : decode bytes pc = .ok (.i2l, 1)) (hp : pc + 1 = pc') (K : own_E p e below P T (mkF m pc' L (.long x.toInt64 :: S))) : own_E p e below P T (mkF m pc L (.int x :: S)) := by
  subst hp
  exact own_go (fun t k => XS.i2l X.here C.1 rfl (hb C.2.1 hd) rfl k) K
theorem own_l2i (C : own_C p s m c bytes own Z ml) (X : Stand p l e R s m args below meth c T locs cells slots) {x : Int64} (hd : decode bytes pc = .ok (.l2i, 1)) (hp : pc + 1 = pc') (K : own_E p e below P T (mkF m pc' L (.int x.toInt32 :: S))) : own_E p e below P T (mkF m pc L (.long x :: S)) := by
  subst hp
  exact own_go (fun t k => XS.l2i X.here C.1 rfl (hb C.2.1 hd) rfl k) K
theorem own_i2b (C : own_C p s m c bytes own Z ml) (X : Stand p l e R s m args below meth c T locs cells slots) {x : Int32} (hd : decode bytes pc = .ok (.i2b, 1)) (hp : pc + 1 = pc') (K : own_E p e below P T (mkF m pc' L (.int x.toInt8.toInt32 :: S))) : own_E p e below P T (mkF m pc L (.int x :: S)) := by
  subst hp
  exact own_go (fun t k => XS.i2b X.here C.1 rfl (hb C.2.1 hd) rfl k) K
theorem own_i2c (C : own_C p s m c bytes own Z ml) (X : Stand p l e R s m args below meth c T locs cells slots) {x : Int32} (hd : decode bytes pc = .ok (.i2c, 1)) (hp : pc + 1 = pc') (K : own_E p e below P T (mkF m pc' L (.int x.toUInt32.toUInt16.toUInt32.toInt32 :: S))) : own_E p e below P T (mkF m pc L (.int x :: S)) := by
  subst hp
  exact own_go (fun t k => XS.i2c X.here C.1 rfl (hb C.2.1 hd) rfl k) K
theorem own_dup (C : own_C p s m c bytes own Z ml) (X : Stand p l e R s m args below meth c T locs cells slots) {x : Value} (hd : decode bytes pc = .ok (.dup, 1)) (hc : x.category = 1) (hp : pc + 1 = pc') (K : own_E p e below P T (mkF m pc' L (x :: x :: S))) : own_E p e below P T (mkF m pc L (x :: S)) := by
  subst hp
  exact own_go (fun t k => XS.dup X.here C.1 rfl (hb C.2.1 hd) rfl hc k) K
theorem own_pop (C : own_C p s m c bytes own Z ml) (X : Stand p l e R s m args below meth c T locs cells slots) {x : Value} (hd : decode bytes pc = .ok (.pop, 1)) (hc : x.category = 1) (hp : pc + 1 = pc') (K : own_E p e below P T (mkF m pc' L S)) : own_E p e below P T (mkF m pc L (x :: S)) := by
  subst hp
  exact own_go (fun t k => XS.pop X.here C.1 rfl (hb C.2.1 hd) rfl hc k) K
theorem own_lcmp (C : own_C p s m c bytes own Z ml) (X : Stand p l e R s m args below meth c T locs cells slots) {x y : Int64} (hd : decode bytes pc = .ok (.lcmp, 1)) (hp : pc + 1 = pc') (K : own_E p e below P T (mkF m pc' L (.int (lcmpW x y) :: S))) : own_E p e below P T (mkF m pc L (.long y :: .long x :: S)) := by
  subst hp
  exact own_go (fun t k => XS.lcmp X.here C.1 rfl (hb C.2.1 hd) rfl k) K
theorem own_irem (C : own_C p s m c bytes own Z ml) (X : Stand p l e R s m args below meth c T locs cells slots) {x y : Int32} (hy : y ≠ 0) (hd : decode bytes pc = .ok (.irem, 1)) (hp : pc + 1 = pc') (K : own_E p e below P T (mkF m pc' L (.int (x % y) :: S))) : own_E p e below P T (mkF m pc L (.int y :: .int x :: S)) := by
  subst hp
  exact own_go (fun t k => iremM X C.1 rfl (hb C.2.1 hd) rfl hy k) K
theorem own_goto (C : own_C p s m c bytes own Z ml) (X : Stand p l e R s m args below meth c T locs cells slots) {o : Int} (hd : decode bytes pc = .ok (.goto o, 3)) (ho : 0 ≤ (pc : Int) + o) (hp : ((pc : Int) + o).toNat = pc') (K : own_E p e below P T (mkF m pc' L S)) : own_E p e below P T (mkF m pc L S) := by
  exact own_go (fun t k => XS.goto X.here C.1 rfl rfl (hb C.2.1 hd) ho hp k) K
theorem own_ifY (C : own_C p s m c bytes own Z ml) (X : Stand p l e R s m args below meth c T locs cells slots) {cd : ClassFile.Cond} {x : Int32} {o : Int} (hd : decode bytes pc = .ok (.ifCond cd o, 3)) (hc : ifCond.holds cd x = true) (ho : 0 ≤ (pc : Int) + o) (hp : ((pc : Int) + o).toNat = pc') (K : own_E p e below P T (mkF m pc' L S)) : own_E p e below P T (mkF m pc L (.int x :: S)) := by
  exact own_go (fun t k => XS.ifYes X.here C.1 rfl rfl (hb C.2.1 hd) rfl hc ho hp k) K
theorem own_ifN (C : own_C p s m c bytes own Z ml) (X : Stand p l e R s m args below meth c T locs cells slots) {cd : ClassFile.Cond} {x : Int32} {o : Int} (hd : decode bytes pc = .ok (.ifCond cd o, 3)) (hc : ifCond.holds cd x = false) (hp : pc + 3 = pc') (K : own_E p e below P T (mkF m pc' L S)) : own_E p e below P T (mkF m pc L (.int x :: S)) := by
  subst hp
  exact own_go (fun t k => XS.ifNo X.here C.1 rfl (hb C.2.1 hd) rfl hc k) K
theorem own_icmpY (C : own_C p s m c bytes own Z ml) (X : Stand p l e R s m args below meth c T locs cells slots) {cd : ClassFile.Cond} {x y : Int32} {o : Int} (hd : decode bytes pc = .ok (.if_icmp cd o, 3)) (hc : if_icmp.holds cd x y = true) (ho : 0 ≤ (pc : Int) + o) (hp : ((pc : Int) + o).toNat = pc') (K : own_E p e below P T (mkF m pc' L S)) : own_E p e below P T (mkF m pc L (.int y :: .int x :: S)) := by
  exact own_go (fun t k => XS.icmpYes X.here C.1 rfl rfl (hb C.2.1 hd) rfl hc ho hp k) K
theorem own_icmpN (C : own_C p s m c bytes own Z ml) (X : Stand p l e R s m args below meth c T locs cells slots) {cd : ClassFile.Cond} {x y : Int32} {o : Int} (hd : decode bytes pc = .ok (.if_icmp cd o, 3)) (hc : if_icmp.holds cd x y = false) (hp : pc + 3 = pc') (K : own_E p e below P T (mkF m pc' L S)) : own_E p e below P T (mkF m pc L (.int y :: .int x :: S)) := by
  subst hp
  exact own_go (fun t k => XS.icmpNo X.here C.1 rfl (hb C.2.1 hd) rfl hc k) K
theorem own_lswY (C : own_C p s m c bytes own Z ml) (X : Stand p l e R s m args below meth c T locs cells slots) {z : Int32} {d : Int} {ps : Array (Int × Int)} {len : Nat} {a off : Int} (hd : decode bytes pc = .ok (.lookupswitch d ps, len)) (hs : (ps.toList.zip (ps.toList.drop 1)).all (fun (a, next) => a.1 < next.1) = true) (hf : ps.find? (·.1 == z.toInt) = some (a, off)) (ho : 0 ≤ (pc : Int) + off) (hp : ((pc : Int) + off).toNat = pc') (K : own_E p e below P T (mkF m pc' L S)) : own_E p e below P T (mkF m pc L (.int z :: S)) := by
  subst hp
  exact own_go (fun t k => X.lookupswitchHit C.1 (g := mkF m pc L (.int z :: S)) rfl rfl (hb C.2.1 hd) hs hf ho t k) K
theorem own_lswN (C : own_C p s m c bytes own Z ml) (X : Stand p l e R s m args below meth c T locs cells slots) {z : Int32} {d : Int} {ps : Array (Int × Int)} {len : Nat} (hd : decode bytes pc = .ok (.lookupswitch d ps, len)) (hs : (ps.toList.zip (ps.toList.drop 1)).all (fun (a, next) => a.1 < next.1) = true) (hf : ps.find? (·.1 == z.toInt) = none) (ho : 0 ≤ (pc : Int) + d) (hp : ((pc : Int) + d).toNat = pc') (K : own_E p e below P T (mkF m pc' L S)) : own_E p e below P T (mkF m pc L (.int z :: S)) := by
  subst hp
  exact own_go (fun t k => X.lookupswitchMiss C.1 (g := mkF m pc L (.int z :: S)) rfl rfl (hb C.2.1 hd) hs hf ho t k) K
theorem own_ldcI (C : own_C p s m c bytes own Z ml) (X : Stand p l e R s m args below meth c T locs cells slots) {i : Nat} {v : Int32} (w : (Cond.constant own i v).before a0 Z = true) (hd : decode bytes pc = .ok (.ldc i, 2)) (hp : pc + 2 = pc') (K : own_E p e below P T (mkF m pc' L (.int v :: S))) : own_E p e below P T (mkF m pc L S) := by
  subst hp
  exact own_go (fun t k => X.ldcInt C.1 C.2.2.2.1 (mvT C.2.2.1 w) (g := mkF m pc L S) rfl (hb C.2.1 hd) t k) K
theorem own_ldcJ (C : own_C p s m c bytes own Z ml) (X : Stand p l e R s m args below meth c T locs cells slots) {i : Nat} {v : Int64} (w : (Cond.constantLong own i v).before a0 Z = true) (hd : decode bytes pc = .ok (.ldc2_w i, 3)) (hp : pc + 3 = pc') (K : own_E p e below P T (mkF m pc' L (.long v :: S))) : own_E p e below P T (mkF m pc L S) := by
  subst hp
  exact own_go (fun t k => X.ldc2Long C.1 C.2.2.2.1 (mvT C.2.2.1 w) (g := mkF m pc L S) rfl (hb C.2.1 hd) t k) K
theorem own_iaload (C : own_C p s m c bytes own Z ml) (X : Stand p l e R s m args below meth c T locs cells slots) {a : Addr} {cl : Cell} {j : Int32} {v : Value} (eT : T.heap = h) (A : Arr Z h a cl .int) (hj : ¬ (j < 0 ∨ cl.slots.size ≤ j.toNatClampNeg)) (hv : cl.slots[j.toNatClampNeg]? = some v) (hd : decode bytes pc = .ok (.iaload, 1)) (hp : pc + 1 = pc') (K : own_E p e below P T (mkF m pc' L (v :: S))) : own_E p e below P T (mkF m pc L (.int j :: .ref a :: S)) := by
  subst hp
  exact own_go (fun t k => X.iaload C.1 (by rw [eT]; exact A.1) (State.isArrayOf_alike C.2.2.1.alike A.2.1) A.2.2 hj hv (g := mkF m pc L (.int j :: .ref a :: S)) rfl rfl (hb C.2.1 hd) t k) K
theorem own_laload (C : own_C p s m c bytes own Z ml) (X : Stand p l e R s m args below meth c T locs cells slots) {a : Addr} {cl : Cell} {j : Int32} {v : Value} (eT : T.heap = h) (A : Arr Z h a cl .long) (hj : ¬ (j < 0 ∨ cl.slots.size ≤ j.toNatClampNeg)) (hv : cl.slots[j.toNatClampNeg]? = some v) (hd : decode bytes pc = .ok (.laload, 1)) (hp : pc + 1 = pc') (K : own_E p e below P T (mkF m pc' L (v :: S))) : own_E p e below P T (mkF m pc L (.int j :: .ref a :: S)) := by
  subst hp
  exact own_go (fun t k => X.laload C.1 (by rw [eT]; exact A.1) (State.isArrayOf_alike C.2.2.1.alike A.2.1) A.2.2 hj hv (g := mkF m pc L (.int j :: .ref a :: S)) rfl rfl (hb C.2.1 hd) t k) K
theorem own_baload (C : own_C p s m c bytes own Z ml) (X : Stand p l e R s m args below meth c T locs cells slots) {a : Addr} {cl : Cell} {j : Int32} {v : Value} (eT : T.heap = h) (A : Arr Z h a cl .byte) (hj : ¬ (j < 0 ∨ cl.slots.size ≤ j.toNatClampNeg)) (hv : cl.slots[j.toNatClampNeg]? = some v) (hd : decode bytes pc = .ok (.baload, 1)) (hp : pc + 1 = pc') (K : own_E p e below P T (mkF m pc' L (v :: S))) : own_E p e below P T (mkF m pc L (.int j :: .ref a :: S)) := by
  subst hp
  exact own_go (fun t k => X.baloadBytes C.1 (by rw [eT]; exact A.1) (State.isArrayOf_alike C.2.2.1.alike A.2.1) A.2.2 hj hv (g := mkF m pc L (.int j :: .ref a :: S)) rfl rfl (hb C.2.1 hd) t k) K
theorem own_alen (C : own_C p s m c bytes own Z ml) (X : Stand p l e R s m args below meth c T locs cells slots) {a : Addr} {cl : Cell} {ty : FieldType} {z : Int32} (eT : T.heap = h) (A : Arr Z h a cl ty) (hz : cl.slots.size.toInt32 = z) (hd : decode bytes pc = .ok (.arraylength, 1)) (hp : pc + 1 = pc') (K : own_E p e below P T (mkF m pc' L (.int z :: S))) : own_E p e below P T (mkF m pc L (.ref a :: S)) := by
  subst hp hz
  exact own_go (fun t k => X.arraylength C.1 (by rw [eT]; exact A.1) (State.isArrayOf_alike C.2.2.1.alike A.2.1) (g := mkF m pc L (.ref a :: S)) rfl rfl (hb C.2.1 hd) t k) K
theorem own_iastore (C : own_C p s m c bytes own Z ml) (X : Stand p l e R s m args below meth c T locs cells slots) {a : Addr} {cl : Cell} {j : Int32} {x : Int32} (eT : T.heap = h) (A : Arr Z h a cl .int) (hj : ¬ (j < 0 ∨ cl.slots.size ≤ j.toNatClampNeg)) (hd : decode bytes pc = .ok (.iastore, 1)) (hp : pc + 1 = pc') (K : ∀ T' h', Stand p l e R s m args below meth c T' (locs ++ [⟨a, j.toNatClampNeg⟩]) cells slots → T'.heap = h' → Wr h h' a j.toNatClampNeg (.int x) → Arr Z h' a (cl.setSlot j.toNatClampNeg (.int x)) .int → own_E p e below P T' (mkF m pc' L S)) : own_E p e below P T (mkF m pc L (.int x :: .int j :: .ref a :: S)) := by
  subst hp
  obtain ⟨T', h', X', e', W', st⟩ := stI X C.1 C.2.2.1 eT A hj (g := mkF m pc L (.int x :: .int j :: .ref a :: S)) rfl rfl (hb C.2.1 hd)
  exact own_go st (K T' h' X' e' W' (A.same W'))
theorem own_lastore (C : own_C p s m c bytes own Z ml) (X : Stand p l e R s m args below meth c T locs cells slots) {a : Addr} {cl : Cell} {j : Int32} {x : Int64} (eT : T.heap = h) (A : Arr Z h a cl .long) (hj : ¬ (j < 0 ∨ cl.slots.size ≤ j.toNatClampNeg)) (hd : decode bytes pc = .ok (.lastore, 1)) (hp : pc + 1 = pc') (K : ∀ T' h', Stand p l e R s m args below meth c T' (locs ++ [⟨a, j.toNatClampNeg⟩]) cells slots → T'.heap = h' → Wr h h' a j.toNatClampNeg (.long x) → Arr Z h' a (cl.setSlot j.toNatClampNeg (.long x)) .long → own_E p e below P T' (mkF m pc' L S)) : own_E p e below P T (mkF m pc L (.long x :: .int j :: .ref a :: S)) := by
  subst hp
  obtain ⟨T', h', X', e', W', st⟩ := stJ X C.1 C.2.2.1 eT A hj (g := mkF m pc L (.long x :: .int j :: .ref a :: S)) rfl rfl (hb C.2.1 hd)
  exact own_go st (K T' h' X' e' W' (A.same W'))
theorem own_bastore (C : own_C p s m c bytes own Z ml) (X : Stand p l e R s m args below meth c T locs cells slots) {a : Addr} {cl : Cell} {j : Int32} {x : Int32} (eT : T.heap = h) (A : Arr Z h a cl .byte) (hj : ¬ (j < 0 ∨ cl.slots.size ≤ j.toNatClampNeg)) (hd : decode bytes pc = .ok (.bastore, 1)) (hp : pc + 1 = pc') (K : ∀ T' h', Stand p l e R s m args below meth c T' (locs ++ [⟨a, j.toNatClampNeg⟩]) cells slots → T'.heap = h' → Wr h h' a j.toNatClampNeg (.int (nar .byte x)) → Arr Z h' a (cl.setSlot j.toNatClampNeg (.int (nar .byte x))) .byte → own_E p e below P T' (mkF m pc' L S)) : own_E p e below P T (mkF m pc L (.int x :: .int j :: .ref a :: S)) := by
  subst hp
  obtain ⟨T', h', X', e', W', st⟩ := stB X C.1 C.2.2.1 eT A hj (g := mkF m pc L (.int x :: .int j :: .ref a :: S)) rfl rfl (hb C.2.1 hd)
  exact own_go st (K T' h' X' e' W' (A.same W'))
theorem own_newP (C : own_C p s m c bytes own Z ml) (X : Stand p l e R s m args below meth c T locs cells slots) {aty : ArrayType} {n : Int32} (cap : Nat) (w : (Cond.arrayClass (newarray.typeOf aty)).before a0 Z = true) (eT : T.heap = h) (hn : ¬ n < 0) (hcap : n.toNatClampNeg ≤ cap) (hb8 : cap * 8 ≤ 536870912) (hc : cells + 1 ≤ R.cells) (hl : slots + cap ≤ R.slots) (hd : decode bytes pc = .ok (.newarray aty, 2)) (hp : pc + 2 = pc') (K : ∀ T' h' a cA, Stand p l e R s m args below meth c T' locs (cells + 1) (slots + cap) → T'.heap = h' → a = h.size → Ext h h' → Arr Z h' a (newA cA (newarray.typeOf aty) n) (newarray.typeOf aty) → own_E p e below P T' (mkF m pc' L (.ref a :: S))) : own_E p e below P T (mkF m pc L (.int n :: S)) := by
  subst hp
  obtain ⟨T', h', cA, X', e', E', A', st⟩ := newP X C.1 C.2.2.1 w eT (g := mkF m pc L (.int n :: S)) rfl (hb C.2.1 hd) rfl hn (cap := cap) hcap hb8 hc hl
  exact own_go st (K T' h' _ cA X' e' rfl E' A')
theorem own_newO (C : own_C p s m c bytes own Z ml) (X : Stand p l e R s m args below meth c T locs cells slots) {Cn : String} {i n : Nat} (w : (Cond.classLink own i Cn).before a0 Z = true) (wi : (Cond.instantiable Cn n).before a0 Z = true) (wz : (Cond.initialized Cn).before a0 Z = true) (eT : T.heap = h) (hc : cells + 1 ≤ R.cells) (hl : slots + n ≤ R.slots) (hd : decode bytes pc = .ok (.new i, 3)) (hp : pc + 3 = pc') (K : ∀ T' h' a, Stand p l e R s m args below meth c T' locs (cells + 1) (slots + n) → T'.heap = h' → a = h.size → Ext h h' → Exa Z h' a Cn → (∀ {O nm d : String} {ty : FieldType}, Laid Z a0 Cn O nm d → parseFieldDescriptor d = some ty → Fld Z h' a O nm d (defaultValue ty)) → own_E p e below P T' (mkF m pc' L (.ref a :: S))) : own_E p e below P T (mkF m pc L S) := by
  subst hp
  obtain ⟨T', h', X', e', E', A', D', -, st⟩ := newO X C.1 C.2.2.1 C.2.2.2.1 w wi wz eT (g := mkF m pc L S) rfl (hb C.2.1 hd) hc hl
  exact own_go st (K T' h' _ X' e' rfl E' A' D')
theorem own_getF (C : own_C p s m c bytes own Z ml) (X : Stand p l e R s m args below meth c T locs cells slots) {R0 O n d : String} {i : Nat} {a : Addr} {v : Value} (w : (Cond.fieldLink own i R0 n d).before a0 Z = true) (via : Via Z R0 O n d) (eT : T.heap = h) (F : Fld Z h a O n d v) (hd : decode bytes pc = .ok (.getfield i, 3)) (hp : pc + 3 = pc') (K : ∀ T', Stand p l e R s m args below meth c T' locs cells slots → T'.heap = h → own_E p e below P T' (mkF m pc' L (v :: S))) : own_E p e below P T (mkF m pc L (.ref a :: S)) := by
  subst hp
  obtain ⟨T', X', e', st⟩ := getF X C.1 C.2.2.1 C.2.2.2.1 (host := "") (Or.inl w) via eT F (g := mkF m pc L (.ref a :: S)) rfl rfl (hb C.2.1 hd)
  exact own_go st (K T' X' e')
theorem own_putF (C : own_C p s m c bytes own Z ml) (X : Stand p l e R s m args below meth c T locs cells slots) {R0 O n d Cn : String} {i kk : Nat} {ty : FieldType} {a : Addr} {v old : Value} (w : (Cond.fieldLink own i R0 n d).before a0 Z = true) (via : Via Z R0 O n d) (eT : T.heap = h) (F : Fld Z h a O n d old) (Ex : Exa Z h a Cn) (Ly : (Cond.lays Cn O n d).before a0 Z = true ∨ ((Cond.laysFinal Cn O n d).before a0 Z = true ∧ own = O ∧ meth.name = "<init>")) (wi : (Cond.instantiable Cn kk).before a0 Z = true) (hty : parseFieldDescriptor d = some ty) (hn : narrow ty v = v) (hf : fits ty v = true) (hd : decode bytes pc = .ok (.putfield i, 3)) (hp : pc + 3 = pc') (K : ∀ T' h', Stand p l e R s m args below meth c T' (locs ++ [⟨a, Jvm.RoadKit.slotOf Z O n d⟩]) cells slots → T'.heap = h' → Wr h h' a (Jvm.RoadKit.slotOf Z O n d) v → Fld Z h' a O n d v → Exa Z h' a Cn → own_E p e below P T' (mkF m pc' L S)) : own_E p e below P T (mkF m pc L (v :: .ref a :: S)) := by
  subst hp
  obtain ⟨T', h', X', e', W', st⟩ := putF X C.1 C.2.2.1 C.2.2.2.1 (host := "") (Or.inl w) via eT F Ex Ly wi hty hn hf (g := mkF m pc L (v :: .ref a :: S)) rfl rfl (hb C.2.1 hd)
  exact own_go st (K T' h' X' e' W' (F.same W') (Ex.wr W'))
theorem own_callS (C : own_C p s m c bytes own Z ml) (X : Stand p l e R s m args below meth c T locs cells slots) {y : MethodName} {i mL : Nat} {cb : ByteArray} {rt : Option FieldType} {rm : Room} {as' : Array Value} {Q : Option Value → Heap → List Loc → Prop} {r : Value} (W : Nat) (argsL : List Value) (w1 : (Cond.methodLink own i y).before a0 Z = true) (w2 : (Cond.static y).before a0 Z = true) (w3 : (Cond.initialized y.cls).before a0 Z = true) (w4 : (Cond.code y cb mL rt).before a0 Z = true) (hy : y.cls ≠ "java/lang/invoke/MethodHandle" ∧ y.cls ≠ "java/lang/invoke/VarHandle") (eT : T.heap = h) (hM : MetFree l y (head1 [Cond.code y cb mL rt] rm) (fun a U => a = as' ∧ Z.Warmed39 U.vm ∧ U.heap = h) (fun _ _ _ _ _ => True) (fun _ U o U' => ∃ v L, o = .returned v ∧ Q v U'.heap L ∧ FrameEnd U o U' L rm.cells rm.slots)) (ha : argsL.toArray = as') (hf : rm.frames + 1 ≤ R.frames) (hlo : W + (mL + 11) + rm.locals ≤ R.locals) (hsz : L.size = ml) (hlen : ∀ sig, parseMethodDescriptor y.desc = some sig → argsL.length = sig.parameters.length) {S' : List Value} (hS : S' = argsL.reverse ++ S) (hW : (S.map fun v => v.category).sum ≤ W) (hc : cells + rm.cells ≤ R.cells) (hs : slots + rm.slots ≤ R.slots) (hd : decode bytes pc = .ok (.invokestatic i, 3)) (hp : pc + 3 = pc') (hr : ∀ v h L, Q v h L → v = some r) (K : ∀ T' Lc, Stand p l e R s m args below meth c T' (locs ++ Lc) (cells + rm.cells) (slots + rm.slots) → Q (some r) T'.heap Lc → own_E p e below P T' (mkF m pc' L (r :: S))) : own_E p e below P T (mkF m pc L S') := by
  subst hp hS ha
  obtain ⟨v, _, ⟨T', L1, k1, n1⟩, -, X', ⟨Lc, hQ, l1, y1, z1⟩, st⟩ := Jvm.LawKit.callS X C.1 (y := y) C.2.2.2.1 (mvT C.2.2.1 w1) (mvT C.2.2.1 w2) (mvT C.2.2.1 w3) (mvT C.2.2.1 w4) hy (backOf (W := W) hM C.2.2.1 w4 w3 hf hlo) (g := mkF m pc L (argsL.reverse ++ S)) rfl (hsz.trans C.2.2.2.2.symm) (argsL := argsL) (rest := S) hlen rfl (by show 2 * 0 + _ ≤ _; omega) (hb C.2.1 hd) (fun _ _ => ⟨rfl, eT, hc, hs⟩)
  dsimp only [Pt.U, Pt.locs, Pt.cells, Pt.slots] at X' l1 y1 z1 st hQ
  subst l1 y1 z1
  cases hr _ _ _ hQ
  exact own_go st (K T' Lc X' hQ)
theorem own_callI (C : own_C p s m c bytes own Z ml) (X : Stand p l e R s m args below meth c T locs cells slots) {y : MethodName} {i mL : Nat} {cb : ByteArray} {rm : Room} {as' : Array Value} {Q : Option Value → Heap → List Loc → Prop} {b : Addr} (W : Nat) (argsL : List Value) (w1 : (Cond.methodLink own i y).before a0 Z = true) (hy1 : y.name = "<init>") (w2 : (Cond.instanceMethod y).before a0 Z = true) (w3 : (Cond.initialized y.cls).before a0 Z = true) (w4 : (Cond.code y cb mL none).before a0 Z = true) (hy : y.cls ≠ "java/lang/invoke/MethodHandle" ∧ y.cls ≠ "java/lang/invoke/VarHandle") (eT : T.heap = h) (hM : MetFree l y (head1 [Cond.code y cb mL none] rm) (fun a U => a = as' ∧ Z.Warmed39 U.vm ∧ U.heap = h) (fun _ _ _ _ _ => True) (fun _ U o U' => ∃ v L, o = .returned v ∧ Q v U'.heap L ∧ FrameEnd U o U' L rm.cells rm.slots)) (ha : (.ref b :: argsL).toArray = as') (hf : rm.frames + 1 ≤ R.frames) (hlo : W + (mL + 11) + rm.locals ≤ R.locals) (hsz : L.size = ml) (hlen : ∀ sig, parseMethodDescriptor y.desc = some sig → argsL.length = sig.parameters.length) {S' : List Value} (hS : S' = argsL.reverse ++ .ref b :: S) (hW : (S.map fun v => v.category).sum ≤ W) (hc : cells + rm.cells ≤ R.cells) (hs : slots + rm.slots ≤ R.slots) (hd : decode bytes pc = .ok (.invokespecial i, 3)) (hp : pc + 3 = pc') (hr : ∀ v h L, Q v h L → v = none) (K : ∀ T' Lc, Stand p l e R s m args below meth c T' (locs ++ Lc) (cells + rm.cells) (slots + rm.slots) → Q (none) T'.heap Lc → own_E p e below P T' (mkF m pc' L S)) : own_E p e below P T (mkF m pc L S') := by
  subst hp hS ha
  obtain ⟨v, _, ⟨T', L1, k1, n1⟩, -, X', ⟨Lc, hQ, l1, y1, z1⟩, st⟩ := X.specialBack C.1 (y := y) hy1 C.2.2.2.1 (mvT C.2.2.1 w1) (mvT C.2.2.1 w2) (mvT C.2.2.1 w4) hy (backOf (W := W) hM C.2.2.1 w4 w3 hf hlo) (g := mkF m pc L (argsL.reverse ++ .ref b :: S)) rfl (hsz.trans C.2.2.2.2.symm) (Steps.refl _) (a := b) (argsL := argsL) (rest := S) hlen rfl (by show 2 * 0 + _ ≤ _; omega) (hb C.2.1 hd) (fun _ _ => ⟨rfl, eT, hc, hs⟩)
  dsimp only [Pt.U, Pt.locs, Pt.cells, Pt.slots] at X' l1 y1 z1 st hQ
  subst l1 y1 z1
  cases hr _ _ _ hQ
  obtain ⟨t, o, h1, h2⟩ := K T' Lc X' hQ
  exact ⟨t, o, st.trans h1, h2⟩
theorem own_callV (C : own_C p s m c bytes own Z ml) (X : Stand p l e R s m args below meth c T locs cells slots) {y : MethodName} {i mL : Nat} {cb : ByteArray} {rt : Option FieldType} {rm : Room} {as' : Array Value} {Q : Option Value → Heap → List Loc → Prop} {b : Addr} {Cn : String} {r : Value} (W : Nat) (argsL : List Value) (w1 : (Cond.methodLink own i y).before a0 Z = true) (w2 : (Cond.declares y).before a0 Z = true) (w5 : (Cond.selects Cn y y).before a0 Z = true) (w6 : (Cond.instanceMethod y).before a0 Z = true) (w3 : (Cond.initialized y.cls).before a0 Z = true) (w4 : (Cond.code y cb mL rt).before a0 Z = true) (Ex : Exa Z h b Cn) (hy : y.cls ≠ "java/lang/invoke/MethodHandle" ∧ y.cls ≠ "java/lang/invoke/VarHandle") (eT : T.heap = h) (hM : MetFree l y (head1 [Cond.code y cb mL rt] rm) (fun a U => a = as' ∧ Z.Warmed39 U.vm ∧ U.heap = h) (fun _ _ _ _ _ => True) (fun _ U o U' => ∃ v L, o = .returned v ∧ Q v U'.heap L ∧ FrameEnd U o U' L rm.cells rm.slots)) (ha : (.ref b :: argsL).toArray = as') (hf : rm.frames + 1 ≤ R.frames) (hlo : W + (mL + 11) + rm.locals ≤ R.locals) (hsz : L.size = ml) (hlen : ∀ sig, parseMethodDescriptor y.desc = some sig → argsL.length = sig.parameters.length) {S' : List Value} (hS : S' = argsL.reverse ++ .ref b :: S) (hW : (S.map fun v => v.category).sum ≤ W) (hc : cells + rm.cells ≤ R.cells) (hs : slots + rm.slots ≤ R.slots) (hd : decode bytes pc = .ok (.invokevirtual i, 3)) (hp : pc + 3 = pc') (hr : ∀ v h L, Q v h L → v = some r) (K : ∀ T' Lc, Stand p l e R s m args below meth c T' (locs ++ Lc) (cells + rm.cells) (slots + rm.slots) → Q (some r) T'.heap Lc → own_E p e below P T' (mkF m pc' L (r :: S))) : own_E p e below P T (mkF m pc L S') := by
  subst hp hS ha
  obtain ⟨cq, kq, qa, qb, qc⟩ := isOf C.2.2.1 eT Ex
  obtain ⟨v, _, ⟨T', L1, k1, n1⟩, -, X', ⟨Lc, hQ, l1, y1, z1⟩, st⟩ := X.virtualBack C.1 (y := y) (z := y) C.2.2.2.1 (mvT C.2.2.1 w1) (mvT C.2.2.1 w2) (notFace_of_selects (args := #[]) (mvT C.2.2.1 w5)) (mvT C.2.2.1 w5) (mvT C.2.2.1 w6) hy (backOf (W := W) hM C.2.2.1 w4 w3 hf hlo) qa qc (g := mkF m pc L (argsL.reverse ++ .ref b :: S)) rfl (hsz.trans C.2.2.2.2.symm) (Steps.refl _) (argsL := argsL) (rest := S) hlen rfl (by show 2 * 0 + _ ≤ _; omega) (hb C.2.1 hd) (fun _ _ => ⟨rfl, eT, hc, hs⟩)
  dsimp only [Pt.U, Pt.locs, Pt.cells, Pt.slots] at X' l1 y1 z1 st hQ
  subst l1 y1 z1
  cases hr _ _ _ hQ
  obtain ⟨t, o, h1, h2⟩ := K T' Lc X' hQ
  exact ⟨t, o, st.trans h1, h2⟩
theorem own_retI (C : own_C p s m c bytes own Z ml) (X : Stand p l e R s m args below meth c T locs cells slots) {Q : Option Value → Heap → List Loc → Prop} {k n : Nat} {z : Int32} (hret : meth.sig.returnType = some .int) (hl : meth.locks = false) (hk : cells ≤ k) (hn : slots ≤ n) (hd : decode bytes pc = .ok (.ireturn, 1)) (hQ : Q (some (.int z)) T.heap locs) : own_E p e below (own_R s below Q k n) T (mkF m pc L (.int z :: S)) := by
  obtain ⟨fs, hr, hrun, hended, hW, hsame⟩ := X.leave (v := some (.int z)) (fun h => by rw [hret] at h; cases h) hl
  exact ⟨_, _, retOut X C.1 hret rfl (Or.inl ⟨rfl, Or.inl rfl, _, rfl⟩) (hb C.2.1 hd) hr, hrun, hended, _, _, rfl, hQ, ⟨_, rfl⟩, hW, hsame.mono hk hn⟩
theorem own_retJ (C : own_C p s m c bytes own Z ml) (X : Stand p l e R s m args below meth c T locs cells slots) {Q : Option Value → Heap → List Loc → Prop} {k n : Nat} {z : Int64} (hret : meth.sig.returnType = some .long) (hl : meth.locks = false) (hk : cells ≤ k) (hn : slots ≤ n) (hd : decode bytes pc = .ok (.lreturn, 1)) (hQ : Q (some (.long z)) T.heap locs) : own_E p e below (own_R s below Q k n) T (mkF m pc L (.long z :: S)) := by
  obtain ⟨fs, hr, hrun, hended, hW, hsame⟩ := X.leave (v := some (.long z)) (fun h => by rw [hret] at h; cases h) hl
  exact ⟨_, _, retOut X C.1 hret rfl (Or.inr (Or.inl ⟨rfl, rfl, _, rfl⟩)) (hb C.2.1 hd) hr, hrun, hended, _, _, rfl, hQ, ⟨_, rfl⟩, hW, hsame.mono hk hn⟩
theorem own_retN (C : own_C p s m c bytes own Z ml) (X : Stand p l e R s m args below meth c T locs cells slots) {Q : Option Value → Heap → List Loc → Prop} {k n : Nat} {z : Int32} {t : FieldType} (hret : meth.sig.returnType = some t) (ht : t = .boolean ∨ t = .byte ∨ t = .char ∨ t = .short) (hl : meth.locks = false) (hk : cells ≤ k) (hn : slots ≤ n) (hd : decode bytes pc = .ok (.ireturn, 1)) (hQ : Q (some (.int (nar t z))) T.heap locs) : own_E p e below (own_R s below Q k n) T (mkF m pc L (.int z :: S)) := by
  obtain ⟨fs, hr, hrun, hended, hW, hsame⟩ := X.leave (v := some (.int (nar t z))) (fun h => by rw [hret] at h; cases h) hl
  exact ⟨_, _, retN X C.1 hret ht (hb C.2.1 hd) hr, hrun, hended, _, _, rfl, hQ, ⟨_, rfl⟩, hW, hsame.mono hk hn⟩
theorem own_retV (C : own_C p s m c bytes own Z ml) (X : Stand p l e R s m args below meth c T locs cells slots) {Q : Option Value → Heap → List Loc → Prop} {k n : Nat} (hret : meth.sig.returnType = none) (hl : meth.locks = false) (hk : cells ≤ k) (hn : slots ≤ n) (hd : decode bytes pc = .ok (.return_, 1)) (hQ : Q none T.heap locs) : own_E p e below (own_R s below Q k n) T (mkF m pc L []) := by
  obtain ⟨fs, hr, hrun, hended, hW, hsame⟩ := X.leave (v := none) (fun _ => rfl) hl
  exact ⟨_, _, X.returnOut C.1 hret (hb C.2.1 hd) hr, hrun, hended, _, _, rfl, hQ, ⟨_, rfl⟩, hW, hsame.mono hk hn⟩
theorem own_iinc (C : own_C p s m c bytes own Z ml) (X : Stand p l e R s m args below meth c T locs cells slots) {k : Nat} {ct : Int} {v : Int32} (hd : decode bytes pc = .ok (.iinc k ct, 3)) (hl : L[k]? = some (.val (.int v))) (hl' : storeLocals L k (.int (v + Int32.ofInt ct)) = some L') (hp : pc + 3 = pc') (K : own_E p e below P T (mkF m pc' L' S)) : own_E p e below P T (mkF m pc L S) := by
  subst hp
  exact own_go (fun t k => XS.iinc X.here C.1 rfl (hb C.2.1 hd) hl hl' k) K
theorem own_ldcwI (C : own_C p s m c bytes own Z ml) (X : Stand p l e R s m args below meth c T locs cells slots) {i : Nat} {v : Int32} (w : (Cond.constant own i v).before a0 Z = true) (hd : decode bytes pc = .ok (.ldc_w i, 3)) (hp : pc + 3 = pc') (K : own_E p e below P T (mkF m pc' L (.int v :: S))) : own_E p e below P T (mkF m pc L S) := by
  subst hp
  exact own_go (fun t k => X.ldcwInt C.1 C.2.2.2.1 (mvT C.2.2.1 w) (g := mkF m pc L S) rfl (hb C.2.1 hd) t k) K
theorem own_retA (C : own_C p s m c bytes own Z ml) (X : Stand p l e R s m args below meth c T locs cells slots) {Q : Option Value → Heap → List Loc → Prop} {k n : Nat} {z : Addr} {ty : FieldType} (hret : meth.sig.returnType = some (.array ty)) (hl : meth.locks = false) (hk : cells ≤ k) (hn : slots ≤ n) (hd : decode bytes pc = .ok (.areturn, 1)) (hQ : Q (some (.ref z)) T.heap locs) : own_E p e below (own_R s below Q k n) T (mkF m pc L (.ref z :: S)) := by
  obtain ⟨fs, hr, hrun, hended, hW, hsame⟩ := X.leave (v := some (.ref z)) (fun h => by rw [hret] at h; cases h) hl
  exact ⟨_, _, retOut X C.1 hret rfl (Or.inr (Or.inr (Or.inr (Or.inr ⟨rfl, rfl, rfl⟩)))) (hb C.2.1 hd) hr, hrun, hended, _, _, rfl, hQ, ⟨_, rfl⟩, hW, hsame.mono hk hn⟩
theorem own_arrK {a : Addr} {cl : Cell} {ty : FieldType} {h' : Heap} {ws : List Addr} (A : Arr Z h a cl ty) (K : Keep h h' ws) (q : a ∉ ws) : Arr Z h' a cl ty := ⟨K.2.1 a cl A.1 q, A.2⟩
theorem own_ne {a b : Addr} (hl : a < h.size) (g : b = h.size) : a ≠ b := fun q => by rw [q, g] at hl; exact Nat.lt_irrefl _ hl
theorem own_idx {j : Int32} {cl : Cell} {n : Nat} (S : cl.slots.size = n) (h0 : 0 ≤ j.toInt) (h1 : j.toInt < n) : ¬ (j < 0 ∨ cl.slots.size ≤ j.toNatClampNeg) := by
  have z : (0 : Int32).toInt = 0 := rfl
  rw [S, Int32.lt_iff_toInt_lt, z]
  simp only [Int32.toNatClampNeg]
  omega
theorem own_set {cl : Cell} {i j : Nat} {v : Value} (hi : i < cl.slots.size) : (cl.setSlot i v).slots[j]? = if i = j then some v else cl.slots[j]? := by
  simp only [Cell.setSlot, Array.getElem?_setIfInBounds]
  split <;> simp [hi]
theorem own_setS {cl : Cell} {i n : Nat} {v : Value} (S : cl.slots.size = n) : (cl.setSlot i v).slots.size = n := by
  simp [Cell.setSlot, S]
theorem own_initO (C : own_C p s m c bytes own Z ml) (X : Stand p l e R s m args below meth c T locs cells slots) {i : Nat} {a : Addr} (W : Nat) (w1 : (Cond.methodLink own i Lib.objectInit).before a0 Z = true) (w2 : (Cond.instanceMethod Lib.objectInit).before a0 Z = true) (w3 : (Cond.code Lib.objectInit object_method_1_code 1 none).before a0 Z = true) (eT : T.heap = h) (hsz : L.size = ml) (hf : 1 ≤ R.frames) (hW : (S.map fun v => v.category).sum ≤ W) (hl : W + 12 ≤ R.locals) (hd : decode bytes pc = .ok (.invokespecial i, 3)) (hp : pc + 3 = pc') (K : ∀ T', Stand p l e R s m args below meth c T' locs cells slots → T'.heap = h → own_E p e below P T' (mkF m pc' L S)) : own_E p e below P T (mkF m pc L (.ref a :: S)) := by
  subst hp
  obtain ⟨T', X', e', st⟩ := initO X C.1 C.2.2.1 C.2.2.2.1 w1 w2 w3 eT (g := mkF m pc L (.ref a :: S)) rfl (hsz.trans C.2.2.2.2.symm) rfl (hb C.2.1 hd) hf (W := W) (by show 2 * 0 + _ ≤ _; omega) hl
  exact own_go st (K T' X' e')
theorem own_cpA (C : own_C p s m c bytes own Z ml) (X : Stand p l e R s m args below meth c T locs cells slots) {i : Nat} {ka kb : ClassId} {a b : Addr} {z z' nn : Int32} {vs vd : List Value} {dv dd : Value} {n0 : Nat} (W : Nat) (w1 : (Cond.methodLink own i Jvm.Stand.acN).before a0 Z = true) (w2 : (Cond.native Jvm.Stand.acN).before a0 Z = true) (w3 : (Cond.static Jvm.Stand.acN).before a0 Z = true) (w4 : (Cond.initialized "java/lang/System").before a0 Z = true) (eT : T.heap = h) (A : Arv Z h a ka .long z vs dv) (B : Arv Z h b kb .long z' vd dd) (h3 : ¬ nn < 0) (h4 : nn.toNatClampNeg ≤ z.toNatClampNeg) (h5 : nn.toNatClampNeg ≤ z'.toNatClampNeg) (hl : nn.toNatClampNeg ≤ vd.length) (N : Fr n0 locs) (ge : n0 ≤ b) (hsz : L.size = ml) (hf : 1 ≤ R.frames) (hW : (S.map fun v => v.category).sum ≤ W) (hlo : W + (nativeFrameWords "java/lang/System" "arraycopy" 5 + 11) ≤ R.locals) (hd : decode bytes pc = .ok (.invokestatic i, 3)) (hp : pc + 3 = pc') (K : ∀ T' h' L', Stand p l e R s m args below meth c T' L' cells slots → T'.heap = h' → Fr n0 L' → Keep h h' [b] → Arv Z h' b kb .long z' ((List.range nn.toNatClampNeg).map (fun i => vs.getD (0 + i) dv) ++ vd.drop (0 + nn.toNatClampNeg)) dd → own_E p e below P T' (mkF m pc' L S)) : own_E p e below P T (mkF m pc L (.int nn :: .int 0 :: .ref b :: .int 0 :: .ref a :: S)) := by
  subst hp
  have z0 : (0 : Int32).toNatClampNeg = 0 := rfl
  obtain ⟨T', h', L', X', e', N', K', B', st⟩ := cpA X C.1 C.2.2.1 C.2.2.2.1 w1 w2 w3 w4 eT A B (sp := 0) (dp := 0) (nn := nn) (Or.inl ⟨rfl, rfl⟩) (by decide) (by decide) h3 (by rw [z0]; omega) (by rw [z0]; omega) rfl (by rw [z0]; omega) N ge (g := mkF m pc L (.int nn :: .int 0 :: .ref b :: .int 0 :: .ref a :: S)) rfl (hsz.trans C.2.2.2.2.symm) rfl (hb C.2.1 hd) hf (W := W) (by show 2 * 0 + _ ≤ _; omega) hlo
  simp only [z0, List.take_zero, List.nil_append] at B'
  exact own_go st (K T' h' L' X' e' N' K' B')
end Own

def own_minL (x y : Int64) : Int64 := if y < x then y else x
def own_hi (z : Int64) : Int32 := ((z.toUInt64 >>> ((32 : Int32) &&& 0x3f).toInt64.toUInt64).toInt64).toInt32
def own_slot (key op : Int32) : Int64 := (key.toInt64 <<< ((32 : Int32) &&& 0x3f).toInt64) ||| (op + 1).toInt64
def own_ix (v : Int64) : Nat := v.toInt.toNat
def own_ar (b : Int64) (tab : Nat → Int64) (key : Int32) (v : Int64) : Int32 := if 0 < v ∧ v < b then (if tab (own_ix v) = 0 then 1 else if own_hi (tab (own_ix v)) = key then 1 else 0) else 0
def own_at (b : Int64) (tab : Nat → Int64) (op key : Int32) (v : Int64) : Nat → Int64 := if 0 < v ∧ v < b ∧ tab (own_ix v) = 0 then (fun i => if i = own_ix v then own_slot key op else tab i) else tab
def own_find (tab : Nat → Int64) (key : Int32) (v : Int64) : Int32 := if 0 < v ∧ tab (own_ix v) ≠ 0 ∧ own_hi (tab (own_ix v)) = key then (tab (own_ix v)).toInt32 - 1 else -1
def own_nlz (x : Int32) : Int32 := if x < 2048 then 21 else if x < 4096 then 20 else 19
def own_hb (x : Int32) : Int32 := if x < 2048 then 1024 else if x < 4096 then 2048 else 4096
def own_bb (q : Prop) [Decidable q] : Int32 := if q then 1 else 0
def own_Tb (Z : State) (h : Heap) (a : Addr) (n0 : Nat) (b : Int64) (tab : Nat → Int64) : Prop := Exa Z h a "com/example/isolith/isolith/history/WriteTable" ∧ Fld Z h a "com/example/isolith/isolith/history/WriteTable" "bound" "J" (.long b) ∧ ∃ (ar : Addr) (f : Int32) (cl : Cell) (N : Nat), n0 ≤ ar ∧ Fld Z h a "com/example/isolith/isolith/history/WriteTable" "slots" "[J" (.ref ar) ∧ Fld Z h a "com/example/isolith/isolith/history/WriteTable" "firstRepeated" "I" (.int f) ∧ Arr Z h ar cl .long ∧ cl.slots.size = N ∧ 1024 ≤ N ∧ N ≤ 8192 ∧ (∀ i, i < N → cl.slots[i]? = some (.long (tab i))) ∧ ∀ i, N ≤ i → tab i = 0
theorem own_atP (b : Int64) (tab : Nat → Int64) (op key : Int32) (v : Int64) (i : Nat) : own_at b tab op key v i = if (0 < v ∧ v < b ∧ tab (own_ix v) = 0) ∧ i = own_ix v then own_slot key op else tab i := by
  unfold own_at
  by_cases q : 0 < v ∧ v < b ∧ tab (own_ix v) = 0
  · rw [if_pos q]
    by_cases r : i = own_ix v
    · exact (if_pos r).trans (if_pos ⟨q, r⟩).symm
    · exact (if_neg r).trans (if_neg (fun z => r z.2)).symm
  · rw [if_neg q, if_neg (fun z => q z.1)]
theorem own_lt {x y : Int32} : x < y ↔ x.toInt < y.toInt := Int32.lt_iff_toInt_lt
theorem own_ltL {x y : Int64} : x < y ↔ x.toInt < y.toInt := Int64.lt_iff_toInt_lt
theorem own_z64 : (0 : Int64).toInt = 0 := rfl
theorem own_sh {x : Int32} (h : 0 ≤ x.toInt) (s : Int32) (k : Nat) (hs : (s &&& 31).toUInt32.toNat = k) (hk : k < 32) : ((x.toUInt32 >>> (s &&& 31).toUInt32).toInt32).toInt = x.toInt / 2 ^ k := Jvm.Kit.i32_iushr (Jvm.Kit.i32_nonneg.mpr h) hs hk
theorem own_and (x m : Int32) (k : Nat) (hk : k < 31) (hm : m.toBitVec.toNat = 2 ^ k) (h1 : 2 ^ k ≤ x.toInt) (h2 : x.toInt < 2 ^ (k + 1)) : x &&& m = m := by
  have hp : (0 : Int) < 2 ^ k := Int.pow_pos (by decide)
  have hx : x.toInt = (x.toBitVec.toNat : Int) := by
    have e1 : x.toInt = x.toBitVec.toInt := rfl
    have h0 : 0 ≤ x.toInt := by omega
    rw [e1] at h0 ⊢
    rw [BitVec.toInt_eq_toNat_cond] at h0 ⊢
    have := x.toBitVec.isLt
    split at h0 <;> split <;> omega
  rw [hx] at h1 h2
  have g1 : 2 ^ k ≤ x.toBitVec.toNat := by
    have : ((2 ^ k : Nat) : Int) ≤ (x.toBitVec.toNat : Int) := by push_cast; exact h1
    exact Int.ofNat_le.mp this
  have g2 : x.toBitVec.toNat < 2 ^ (k + 1) := by
    have : (x.toBitVec.toNat : Int) < ((2 ^ (k + 1) : Nat) : Int) := by push_cast; exact h2
    exact Int.ofNat_lt.mp this
  have hd : x.toBitVec.toNat / 2 ^ k = 1 := by
    have : 0 < 2 ^ k := Nat.pow_pos (by decide)
    apply Nat.div_eq_of_lt_le
    · omega
    · rw [Nat.pow_succ] at g2; omega
  apply Int32.toBitVec_inj.mp
  apply BitVec.eq_of_toNat_eq
  show (x.toBitVec &&& m.toBitVec).toNat = _
  rw [BitVec.toNat_and, hm]
  apply Nat.eq_of_testBit_eq
  intro j
  rw [Nat.testBit_and, Nat.testBit_two_pow]
  by_cases q : k = j
  · subst q
    simp [Nat.testBit_eq_decide_div_mod_eq, hd]
  · simp [q]
theorem own_i32 {v : Int64} (h0 : 0 < v) (h1 : v.toInt ≤ 8191) : v.toInt32.toInt = v.toInt := by
  rw [own_ltL, own_z64] at h0
  exact Jvm.Kit.i32_of_i64 (by omega) (by omega)
theorem own_ixC {v : Int64} (h0 : 0 < v) (h1 : v.toInt ≤ 8191) : v.toInt32.toNatClampNeg = own_ix v := by
  simp only [Int32.toNatClampNeg, own_ix, own_i32 h0 h1]
theorem own_grow {x : Int32} (h1 : 1024 ≤ x.toInt) (h2 : x.toInt ≤ 8191) : x.toInt < (own_hb x <<< ((1 : Int32) &&& 31)).toInt ∧ (own_hb x <<< ((1 : Int32) &&& 31)).toInt ≤ 8192 := by
  have a : (2048 : Int32).toInt = 2048 := rfl
  have b : (4096 : Int32).toInt = 4096 := rfl
  unfold own_hb
  split
  · rename_i q
    rw [own_lt, a] at q
    have : ((1024 : Int32) <<< ((1 : Int32) &&& 31)).toInt = 2048 := by decide
    omega
  · split
    · rename_i q
      rw [own_lt, b] at q
      have : ((2048 : Int32) <<< ((1 : Int32) &&& 31)).toInt = 4096 := by decide
      omega
    · have : ((4096 : Int32) <<< ((1 : Int32) &&& 31)).toInt = 8192 := by decide
      omega
theorem d3_0 : decode jdk_29_method_70_code 0 = .ok (.lload_n 0, 1) := by decide +kernel
theorem d3_1 : decode jdk_29_method_70_code 1 = .ok (.lload_n 2, 1) := by decide +kernel
theorem d3_2 : decode jdk_29_method_70_code 2 = .ok (.lcmp, 1) := by decide +kernel
theorem d3_3 : decode jdk_29_method_70_code 3 = .ok (.ifCond .gt 7, 3) := by decide +kernel
theorem d3_6 : decode jdk_29_method_70_code 6 = .ok (.lload_n 0, 1) := by decide +kernel
theorem d3_7 : decode jdk_29_method_70_code 7 = .ok (.goto 4, 3) := by decide +kernel
theorem d3_10 : decode jdk_29_method_70_code 10 = .ok (.lload_n 2, 1) := by decide +kernel
theorem d3_11 : decode jdk_29_method_70_code 11 = .ok (.lreturn, 1) := by decide +kernel
def Q3 (Z : State) (x : Int64) (y : Int64) (h0 : Heap) (n0 : Nat) (v : Option Value) (h : Heap) (L : List Loc) : Prop := v = some (.long (own_minL x y)) ∧ Fr n0 L ∧ h = h0
theorem ef_3 (m : MethodId) (x : Int64) (y : Int64) : entryFrame m #[(.long x), (.long y)] 4 = mkF m 0 #[.val (.long x), .second, .val (.long y), .second] [] := by first | (simp [entryFrame, mkF, argsToLocals, Value.category]; done) | rfl
set_option maxRecDepth 65536 in
set_option maxHeartbeats 40000000 in
theorem rm3 (l : Launch) (Z : State) (a0 : Array Value) (hw : ∀ d ∈ tables_1, d.before a0 Z = true) (ws : List Jvm.Cond) (x : Int64) (y : Int64) (h0 : Heap) (n0 : Nat) (Z0 : n0 ≤ h0.size)  :
    MetFree l (⟨"java/lang/Math", "min", "(JJ)J"⟩ : MethodName) (head1 (Jvm.Cond.code (⟨"java/lang/Math", "min", "(JJ)J"⟩ : MethodName) jdk_29_method_70_code 4 (some .long) :: ws) ({ frames := 0, cells := 0, slots := 0, locals := 0 } : Room)) (fun a U => a = #[(.long x), (.long y)] ∧ Z.Warmed39 U.vm ∧ U.heap = h0) (fun _ _ _ _ _ => True) (fun _ U o U' => ∃ v L, o = .returned v ∧ Q3 Z x y h0 n0 v U'.heap L ∧ FrameEnd U o U' L ({ frames := 0, cells := 0, slots := 0, locals := 0 } : Room).cells ({ frames := 0, cells := 0, slots := 0, locals := 0 } : Room).slots) := by
  refine MetFree.of_bodySF (Jvm.Free.JP.mathPlain rfl (by decide +kernel)) hisR ?_
  intro p e s m args below meth c s₁ Bd hml0 hP hK
  obtain ⟨rfl, hZ, hh⟩ := hP
  have hnm := (name_of_methodNamed Bd.named Bd.method).1
  have C : own_C p s m c jdk_29_method_70_code "java/lang/Math" Z 4 := ⟨Bd.exec, Bd.bytes, hZ, findClass_of_methodNamed Bd.named, hml0⟩
  have X0 : Stand p l e ({ frames := 0, cells := 0, slots := 0, locals := 0 } : Room) s m #[(.long x), (.long y)] below meth c s₁ [] 0 0 := Stand.of_body Bd
  have e0 : s₁.heap = h0 := by rw [← hh, Bd.state]; rfl
  have N0 := Fr.nil n0
  show own_E p e below (own_R s below (Q3 Z x y h0 n0) ({ frames := 0, cells := 0, slots := 0, locals := 0 } : Room).cells ({ frames := 0, cells := 0, slots := 0, locals := 0 } : Room).slots) s₁ (entryFrame m #[(.long x), (.long y)] 4)
  rw [ef_3]
  refine own_lloadN C X0 d3_0 rfl rfl ?_
  refine own_lloadN C X0 d3_1 rfl rfl ?_
  by_cases b : y < x
  · refine own_lcmp C X0 d3_2 rfl ?_
    refine own_ifY (pc' := 10) C X0 d3_3 ((if0 _ _).trans (tlt ((lw_gt _ _).mpr b)).2.2.1) (by decide) (by decide) ?_
    refine own_lloadN C X0 d3_10 rfl rfl ?_
    exact own_retJ C X0 Bd.returns Bd.notSynchronized (by decide) (by decide) d3_11 ⟨by rw [own_minL, if_pos b], N0, e0⟩
  · refine own_lcmp C X0 d3_2 rfl ?_
    refine own_ifN C X0 d3_3 ((if0 _ _).trans (flt (fun q => b ((lw_gt _ _).mp q))).2.2.1) rfl ?_
    refine own_lloadN C X0 d3_6 rfl rfl ?_
    refine own_goto (pc' := 11) C X0 d3_7 (by decide) (by decide) ?_
    exact own_retJ C X0 Bd.returns Bd.notSynchronized (by decide) (by decide) d3_11 ⟨by rw [own_minL, if_neg b], N0, e0⟩
theorem d9_0 : decode jdk_29_method_69_code 0 = .ok (.iload_n 0, 1) := by decide +kernel
theorem d9_1 : decode jdk_29_method_69_code 1 = .ok (.iload_n 1, 1) := by decide +kernel
theorem d9_2 : decode jdk_29_method_69_code 2 = .ok (.if_icmp .gt 7, 3) := by decide +kernel
theorem d9_5 : decode jdk_29_method_69_code 5 = .ok (.iload_n 0, 1) := by decide +kernel
theorem d9_6 : decode jdk_29_method_69_code 6 = .ok (.goto 4, 3) := by decide +kernel
theorem d9_9 : decode jdk_29_method_69_code 9 = .ok (.iload_n 1, 1) := by decide +kernel
theorem d9_10 : decode jdk_29_method_69_code 10 = .ok (.ireturn, 1) := by decide +kernel
def Q9 (Z : State) (x : Int32) (y : Int32) (h0 : Heap) (n0 : Nat) (v : Option Value) (h : Heap) (L : List Loc) : Prop := v = some (.int x) ∧ Fr n0 L ∧ h = h0
theorem ef_9 (m : MethodId) (x : Int32) (y : Int32) : entryFrame m #[(.int x), (.int y)] 2 = mkF m 0 #[.val (.int x), .val (.int y)] [] := by first | (simp [entryFrame, mkF, argsToLocals, Value.category]; done) | rfl
set_option maxRecDepth 65536 in
set_option maxHeartbeats 40000000 in
theorem rm9 (l : Launch) (Z : State) (a0 : Array Value) (hw : ∀ d ∈ tables_1, d.before a0 Z = true) (ws : List Jvm.Cond) (x : Int32) (y : Int32) (h0 : Heap) (n0 : Nat) (Z0 : n0 ≤ h0.size) (hxy : ¬ y < x) :
    MetFree l (⟨"java/lang/Math", "min", "(II)I"⟩ : MethodName) (head1 (Jvm.Cond.code (⟨"java/lang/Math", "min", "(II)I"⟩ : MethodName) jdk_29_method_69_code 2 (some .int) :: ws) ({ frames := 0, cells := 0, slots := 0, locals := 0 } : Room)) (fun a U => a = #[(.int x), (.int y)] ∧ Z.Warmed39 U.vm ∧ U.heap = h0) (fun _ _ _ _ _ => True) (fun _ U o U' => ∃ v L, o = .returned v ∧ Q9 Z x y h0 n0 v U'.heap L ∧ FrameEnd U o U' L ({ frames := 0, cells := 0, slots := 0, locals := 0 } : Room).cells ({ frames := 0, cells := 0, slots := 0, locals := 0 } : Room).slots) := by
  refine MetFree.of_bodySF (Jvm.Free.JP.mathPlain rfl (by decide +kernel)) hisR ?_
  intro p e s m args below meth c s₁ Bd hml0 hP hK
  obtain ⟨rfl, hZ, hh⟩ := hP
  have hnm := (name_of_methodNamed Bd.named Bd.method).1
  have C : own_C p s m c jdk_29_method_69_code "java/lang/Math" Z 2 := ⟨Bd.exec, Bd.bytes, hZ, findClass_of_methodNamed Bd.named, hml0⟩
  have X0 : Stand p l e ({ frames := 0, cells := 0, slots := 0, locals := 0 } : Room) s m #[(.int x), (.int y)] below meth c s₁ [] 0 0 := Stand.of_body Bd
  have e0 : s₁.heap = h0 := by rw [← hh, Bd.state]; rfl
  have N0 := Fr.nil n0
  show own_E p e below (own_R s below (Q9 Z x y h0 n0) ({ frames := 0, cells := 0, slots := 0, locals := 0 } : Room).cells ({ frames := 0, cells := 0, slots := 0, locals := 0 } : Room).slots) s₁ (entryFrame m #[(.int x), (.int y)] 2)
  rw [ef_9]
  refine own_iloadN C X0 d9_0 rfl rfl ?_
  refine own_iloadN C X0 d9_1 rfl rfl ?_
  refine own_icmpN C X0 d9_2 (flt hxy).2.2.1 rfl ?_
  refine own_iloadN C X0 d9_5 rfl rfl ?_
  refine own_goto (pc' := 10) C X0 d9_6 (by decide) (by decide) ?_
  exact own_retI C X0 Bd.returns Bd.notSynchronized (by decide) (by decide) d9_10 ⟨rfl, N0, e0⟩
theorem d7_0 : decode jdk_33_method_47_code 0 = .ok (.iload_n 0, 1) := by decide +kernel
theorem d7_1 : decode jdk_33_method_47_code 1 = .ok (.ifCond .gt 14, 3) := by decide +kernel
theorem d7_4 : decode jdk_33_method_47_code 4 = .ok (.iload_n 0, 1) := by decide +kernel
theorem d7_5 : decode jdk_33_method_47_code 5 = .ok (.ifCond .ne 8, 3) := by decide +kernel
theorem d7_8 : decode jdk_33_method_47_code 8 = .ok (.bipush 32, 2) := by decide +kernel
theorem d7_10 : decode jdk_33_method_47_code 10 = .ok (.goto 4, 3) := by decide +kernel
theorem d7_13 : decode jdk_33_method_47_code 13 = .ok (.iconst 0, 1) := by decide +kernel
theorem d7_14 : decode jdk_33_method_47_code 14 = .ok (.ireturn, 1) := by decide +kernel
theorem d7_15 : decode jdk_33_method_47_code 15 = .ok (.bipush 31, 2) := by decide +kernel
theorem d7_17 : decode jdk_33_method_47_code 17 = .ok (.istore_n 1, 1) := by decide +kernel
theorem d7_18 : decode jdk_33_method_47_code 18 = .ok (.iload_n 0, 1) := by decide +kernel
theorem d7_19 : decode jdk_33_method_47_code 19 = .ok (.ldc_w 264, 3) := by decide +kernel
theorem d7_22 : decode jdk_33_method_47_code 22 = .ok (.if_icmp .lt 11, 3) := by decide +kernel
theorem d7_25 : decode jdk_33_method_47_code 25 = .ok (.iinc 1 (-16), 3) := by decide +kernel
theorem d7_28 : decode jdk_33_method_47_code 28 = .ok (.iload_n 0, 1) := by decide +kernel
theorem d7_29 : decode jdk_33_method_47_code 29 = .ok (.bipush 16, 2) := by decide +kernel
theorem d7_31 : decode jdk_33_method_47_code 31 = .ok (.iushr, 1) := by decide +kernel
theorem d7_32 : decode jdk_33_method_47_code 32 = .ok (.istore_n 0, 1) := by decide +kernel
theorem d7_33 : decode jdk_33_method_47_code 33 = .ok (.iload_n 0, 1) := by decide +kernel
theorem d7_34 : decode jdk_33_method_47_code 34 = .ok (.sipush 256, 3) := by decide +kernel
theorem d7_37 : decode jdk_33_method_47_code 37 = .ok (.if_icmp .lt 11, 3) := by decide +kernel
theorem d7_40 : decode jdk_33_method_47_code 40 = .ok (.iinc 1 (-8), 3) := by decide +kernel
theorem d7_43 : decode jdk_33_method_47_code 43 = .ok (.iload_n 0, 1) := by decide +kernel
theorem d7_44 : decode jdk_33_method_47_code 44 = .ok (.bipush 8, 2) := by decide +kernel
theorem d7_46 : decode jdk_33_method_47_code 46 = .ok (.iushr, 1) := by decide +kernel
theorem d7_47 : decode jdk_33_method_47_code 47 = .ok (.istore_n 0, 1) := by decide +kernel
theorem d7_48 : decode jdk_33_method_47_code 48 = .ok (.iload_n 0, 1) := by decide +kernel
theorem d7_49 : decode jdk_33_method_47_code 49 = .ok (.bipush 16, 2) := by decide +kernel
theorem d7_51 : decode jdk_33_method_47_code 51 = .ok (.if_icmp .lt 10, 3) := by decide +kernel
theorem d7_54 : decode jdk_33_method_47_code 54 = .ok (.iinc 1 (-4), 3) := by decide +kernel
theorem d7_57 : decode jdk_33_method_47_code 57 = .ok (.iload_n 0, 1) := by decide +kernel
theorem d7_58 : decode jdk_33_method_47_code 58 = .ok (.iconst 4, 1) := by decide +kernel
theorem d7_59 : decode jdk_33_method_47_code 59 = .ok (.iushr, 1) := by decide +kernel
theorem d7_60 : decode jdk_33_method_47_code 60 = .ok (.istore_n 0, 1) := by decide +kernel
theorem d7_61 : decode jdk_33_method_47_code 61 = .ok (.iload_n 0, 1) := by decide +kernel
theorem d7_62 : decode jdk_33_method_47_code 62 = .ok (.iconst 4, 1) := by decide +kernel
theorem d7_63 : decode jdk_33_method_47_code 63 = .ok (.if_icmp .lt 10, 3) := by decide +kernel
theorem d7_66 : decode jdk_33_method_47_code 66 = .ok (.iinc 1 (-2), 3) := by decide +kernel
theorem d7_69 : decode jdk_33_method_47_code 69 = .ok (.iload_n 0, 1) := by decide +kernel
theorem d7_70 : decode jdk_33_method_47_code 70 = .ok (.iconst 2, 1) := by decide +kernel
theorem d7_71 : decode jdk_33_method_47_code 71 = .ok (.iushr, 1) := by decide +kernel
theorem d7_72 : decode jdk_33_method_47_code 72 = .ok (.istore_n 0, 1) := by decide +kernel
theorem d7_73 : decode jdk_33_method_47_code 73 = .ok (.iload_n 1, 1) := by decide +kernel
theorem d7_74 : decode jdk_33_method_47_code 74 = .ok (.iload_n 0, 1) := by decide +kernel
theorem d7_75 : decode jdk_33_method_47_code 75 = .ok (.iconst 1, 1) := by decide +kernel
theorem d7_76 : decode jdk_33_method_47_code 76 = .ok (.iushr, 1) := by decide +kernel
theorem d7_77 : decode jdk_33_method_47_code 77 = .ok (.isub, 1) := by decide +kernel
theorem d7_78 : decode jdk_33_method_47_code 78 = .ok (.ireturn, 1) := by decide +kernel
theorem pn_7 : plainName "java/lang/Integer" = true := by first | (simp [plainName, overriddenIn]; done) | decide +kernel
def Q7 (Z : State) (x : Int32) (h0 : Heap) (n0 : Nat) (v : Option Value) (h : Heap) (L : List Loc) : Prop := v = some (.int (own_nlz x)) ∧ Fr n0 L ∧ h = h0
theorem ef_7 (m : MethodId) (x : Int32) : entryFrame m #[(.int x)] 2 = mkF m 0 #[.val (.int x), .unset] [] := by first | (simp [entryFrame, mkF, argsToLocals, Value.category]; done) | rfl
set_option maxRecDepth 65536 in
set_option maxHeartbeats 40000000 in
theorem rm7 (l : Launch) (Z : State) (a0 : Array Value) (hw : ∀ d ∈ tables_1, d.before a0 Z = true) (ws : List Jvm.Cond) (x : Int32) (h0 : Heap) (n0 : Nat) (Z0 : n0 ≤ h0.size) (h1 : 1024 ≤ x.toInt) (h2 : x.toInt ≤ 8191) :
    MetFree l (⟨"java/lang/Integer", "numberOfLeadingZeros", "(I)I"⟩ : MethodName) (head1 (Jvm.Cond.code (⟨"java/lang/Integer", "numberOfLeadingZeros", "(I)I"⟩ : MethodName) jdk_33_method_47_code 2 (some .int) :: ws) ({ frames := 0, cells := 0, slots := 0, locals := 0 } : Room)) (fun a U => a = #[(.int x)] ∧ Z.Warmed39 U.vm ∧ U.heap = h0) (fun _ _ _ _ _ => True) (fun _ U o U' => ∃ v L, o = .returned v ∧ Q7 Z x h0 n0 v U'.heap L ∧ FrameEnd U o U' L ({ frames := 0, cells := 0, slots := 0, locals := 0 } : Room).cells ({ frames := 0, cells := 0, slots := 0, locals := 0 } : Room).slots) := by
  refine MetFree.of_bodySF (plainFor_of_name pn_7) hisR ?_
  intro p e s m args below meth c s₁ Bd hml0 hP hK
  obtain ⟨rfl, hZ, hh⟩ := hP
  have hnm := (name_of_methodNamed Bd.named Bd.method).1
  have C : own_C p s m c jdk_33_method_47_code "java/lang/Integer" Z 2 := ⟨Bd.exec, Bd.bytes, hZ, findClass_of_methodNamed Bd.named, hml0⟩
  have X0 : Stand p l e ({ frames := 0, cells := 0, slots := 0, locals := 0 } : Room) s m #[(.int x)] below meth c s₁ [] 0 0 := Stand.of_body Bd
  have e0 : s₁.heap = h0 := by rw [← hh, Bd.state]; rfl
  have N0 := Fr.nil n0
  show own_E p e below (own_R s below (Q7 Z x h0 n0) ({ frames := 0, cells := 0, slots := 0, locals := 0 } : Room).cells ({ frames := 0, cells := 0, slots := 0, locals := 0 } : Room).slots) s₁ (entryFrame m #[(.int x)] 2)
  rw [ef_7]
  have k0 : (0 : Int32).toInt = 0 := rfl
  have k4 : (4 : Int32).toInt = 4 := rfl
  have k16 : (16 : Int32).toInt = 16 := rfl
  have k256 : (256 : Int32).toInt = 256 := rfl
  have k2048 : (2048 : Int32).toInt = 2048 := rfl
  have k4096 : (4096 : Int32).toInt = 4096 := rfl
  have k65536 : (65536 : Int32).toInt = 65536 := rfl
  refine own_iloadN C X0 d7_0 rfl rfl ?_
  refine own_ifY (pc' := 15) C X0 d7_1 ((if0 _ _).trans (tlt (by rw [own_lt, k0]; omega)).2.2.1) (by decide) (by decide) ?_
  refine own_bipush C X0 (31) d7_15 rfl rfl ?_
  refine own_istoreN (L' := #[_, _]) C X0 d7_17 rfl rfl ?_
  refine own_iloadN C X0 d7_18 rfl rfl ?_
  refine own_ldcwI C X0 (hw _ (List.mem_of_getElem? (i := 43) rfl)) d7_19 rfl ?_
  refine own_icmpY (pc' := 33) C X0 d7_22 (tlt (by rw [own_lt, k65536]; omega)).1 (by decide) (by decide) ?_
  refine own_iloadN C X0 d7_33 rfl rfl ?_
  refine own_sipush C X0 (256) d7_34 rfl rfl ?_
  refine own_icmpN C X0 d7_37 (flt (by rw [own_lt, k256]; omega)).1 rfl ?_
  refine own_iinc (L' := #[_, _]) C X0 d7_40 rfl rfl rfl ?_
  refine own_iloadN C X0 d7_43 rfl rfl ?_
  refine own_bipush C X0 (8) d7_44 rfl rfl ?_
  refine own_iushr C X0 d7_46 rfl ?_
  refine own_istoreN (L' := #[_, _]) C X0 d7_47 rfl rfl ?_
  have e1 : ((x.toUInt32 >>> ((8 : Int32) &&& 31).toUInt32).toInt32).toInt = x.toInt / 2 ^ 8 := own_sh (by omega) 8 8 (by decide) (by decide)
  generalize (x.toUInt32 >>> ((8 : Int32) &&& 31).toUInt32).toInt32 = y at e1
  refine own_iloadN C X0 d7_48 rfl rfl ?_
  refine own_bipush C X0 (16) d7_49 rfl rfl ?_
  by_cases b : x < 4096
  · rw [own_lt, k4096] at b
    refine own_icmpY (pc' := 61) C X0 d7_51 (tlt (show y < 16 by rw [own_lt]; show y.toInt < 16; omega)).1 (by decide) (by decide) ?_
    refine own_iloadN C X0 d7_61 rfl rfl ?_
    refine own_iconst C X0 (4) d7_62 rfl rfl ?_
    refine own_icmpN C X0 d7_63 (flt (show ¬ y < 4 by rw [own_lt, k4]; omega)).1 rfl ?_
    refine own_iinc (L' := #[_, _]) C X0 d7_66 rfl rfl rfl ?_
    refine own_iloadN C X0 d7_69 rfl rfl ?_
    refine own_iconst C X0 (2) d7_70 rfl rfl ?_
    refine own_iushr C X0 d7_71 rfl ?_
    refine own_istoreN (L' := #[_, _]) C X0 d7_72 rfl rfl ?_
    have e2 : ((y.toUInt32 >>> ((2 : Int32) &&& 31).toUInt32).toInt32).toInt = y.toInt / 2 ^ 2 := own_sh (by omega) 2 2 (by decide) (by decide)
    generalize (y.toUInt32 >>> ((2 : Int32) &&& 31).toUInt32).toInt32 = u at e2
    refine own_iloadN C X0 d7_73 rfl rfl ?_
    refine own_iloadN C X0 d7_74 rfl rfl ?_
    refine own_iconst C X0 (1) d7_75 rfl rfl ?_
    refine own_iushr C X0 d7_76 rfl ?_
    refine own_isub C X0 d7_77 rfl ?_
    have e3 : ((u.toUInt32 >>> ((1 : Int32) &&& 31).toUInt32).toInt32).toInt = u.toInt / 2 ^ 1 := own_sh (by omega) 1 1 (by decide) (by decide)
    generalize (u.toUInt32 >>> ((1 : Int32) &&& 31).toUInt32).toInt32 = t at e3
    by_cases b2 : x < 2048
    · have ht : t = 0 := Int32.toInt_inj.mp (by rw [own_lt, k2048] at b2; rw [k0]; omega)
      subst ht
      exact own_retI C X0 Bd.returns Bd.notSynchronized (by decide) (by decide) d7_78 ⟨by rw [own_nlz, if_pos b2] <;> rfl, N0, e0⟩
    · have ht : t = 1 := Int32.toInt_inj.mp (by rw [own_lt, k2048] at b2; show t.toInt = 1; omega)
      subst ht
      exact own_retI C X0 Bd.returns Bd.notSynchronized (by decide) (by decide) d7_78 ⟨by rw [own_nlz, if_neg b2, if_pos (by rw [own_lt, k4096]; exact b)] <;> rfl, N0, e0⟩
  · rw [own_lt, k4096] at b
    refine own_icmpN C X0 d7_51 (flt (show ¬ y < 16 by rw [own_lt]; show ¬ y.toInt < 16; omega)).1 rfl ?_
    refine own_iinc (L' := #[_, _]) C X0 d7_54 rfl rfl rfl ?_
    refine own_iloadN C X0 d7_57 rfl rfl ?_
    refine own_iconst C X0 (4) d7_58 rfl rfl ?_
    refine own_iushr C X0 d7_59 rfl ?_
    refine own_istoreN (L' := #[_, _]) C X0 d7_60 rfl rfl ?_
    have e2 : ((y.toUInt32 >>> ((4 : Int32) &&& 31).toUInt32).toInt32).toInt = y.toInt / 2 ^ 4 := own_sh (by omega) 4 4 (by decide) (by decide)
    generalize (y.toUInt32 >>> ((4 : Int32) &&& 31).toUInt32).toInt32 = u at e2
    refine own_iloadN C X0 d7_61 rfl rfl ?_
    refine own_iconst C X0 (4) d7_62 rfl rfl ?_
    refine own_icmpY (pc' := 73) C X0 d7_63 (tlt (show u < 4 by rw [own_lt, k4]; omega)).1 (by decide) (by decide) ?_
    refine own_iloadN C X0 d7_73 rfl rfl ?_
    refine own_iloadN C X0 d7_74 rfl rfl ?_
    refine own_iconst C X0 (1) d7_75 rfl rfl ?_
    refine own_iushr C X0 d7_76 rfl ?_
    refine own_isub C X0 d7_77 rfl ?_
    have e3 : ((u.toUInt32 >>> ((1 : Int32) &&& 31).toUInt32).toInt32).toInt = u.toInt / 2 ^ 1 := own_sh (by omega) 1 1 (by decide) (by decide)
    generalize (u.toUInt32 >>> ((1 : Int32) &&& 31).toUInt32).toInt32 = t at e3
    have ht : t = 0 := Int32.toInt_inj.mp (by rw [k0]; omega)
    subst ht
    exact own_retI C X0 Bd.returns Bd.notSynchronized (by decide) (by decide) d7_78 ⟨by rw [own_nlz, if_neg (by rw [own_lt, k2048]; omega), if_neg (by rw [own_lt, k4096]; omega)] <;> rfl, N0, e0⟩
theorem pd_I : parseMethodDescriptor "(I)I" = some ⟨[.int], some .int⟩ := by decide +kernel
theorem own_hbE {x : Int32} (h1 : 1024 ≤ x.toInt) (h2 : x.toInt ≤ 8191) : x &&& (((-2147483648 : Int32)).toUInt32 >>> (own_nlz x &&& 31).toUInt32).toInt32 = own_hb x := by
  have a : (2048 : Int32).toInt = 2048 := rfl
  have b : (4096 : Int32).toInt = 4096 := rfl
  by_cases q : x < 2048
  · rw [own_nlz, own_hb, if_pos q, if_pos q]
    rw [own_lt, a] at q
    exact own_and x 1024 10 (by decide) (by decide) (by omega) (by omega)
  · rw [own_nlz, own_hb, if_neg q, if_neg q]
    rw [own_lt, a] at q
    by_cases r : x < 4096
    · rw [if_pos r, if_pos r]
      rw [own_lt, b] at r
      exact own_and x 2048 11 (by decide) (by decide) (by omega) (by omega)
    · rw [if_neg r, if_neg r]
      rw [own_lt, b] at r
      exact own_and x 4096 12 (by decide) (by decide) (by omega) (by omega)
theorem d6_0 : decode jdk_33_method_45_code 0 = .ok (.iload_n 0, 1) := by decide +kernel
theorem d6_1 : decode jdk_33_method_45_code 1 = .ok (.ldc 127, 2) := by decide +kernel
theorem d6_3 : decode jdk_33_method_45_code 3 = .ok (.iload_n 0, 1) := by decide +kernel
theorem d6_4 : decode jdk_33_method_45_code 4 = .ok (.invokestatic 51, 3) := by decide +kernel
theorem d6_7 : decode jdk_33_method_45_code 7 = .ok (.iushr, 1) := by decide +kernel
theorem d6_8 : decode jdk_33_method_45_code 8 = .ok (.iand, 1) := by decide +kernel
theorem d6_9 : decode jdk_33_method_45_code 9 = .ok (.ireturn, 1) := by decide +kernel
theorem pn_6 : plainName "java/lang/Integer" = true := by first | (simp [plainName, overriddenIn]; done) | decide +kernel
def Q6 (Z : State) (x : Int32) (h0 : Heap) (n0 : Nat) (v : Option Value) (h : Heap) (L : List Loc) : Prop := v = some (.int (own_hb x)) ∧ Fr n0 L ∧ h = h0
theorem ef_6 (m : MethodId) (x : Int32) : entryFrame m #[(.int x)] 1 = mkF m 0 #[.val (.int x)] [] := by first | (simp [entryFrame, mkF, argsToLocals, Value.category]; done) | rfl
set_option maxRecDepth 65536 in
set_option maxHeartbeats 40000000 in
theorem rm6 (l : Launch) (Z : State) (a0 : Array Value) (hw : ∀ d ∈ tables_1, d.before a0 Z = true) (ws : List Jvm.Cond) (x : Int32) (h0 : Heap) (n0 : Nat) (Z0 : n0 ≤ h0.size) (h1 : 1024 ≤ x.toInt) (h2 : x.toInt ≤ 8191) :
    MetFree l (⟨"java/lang/Integer", "highestOneBit", "(I)I"⟩ : MethodName) (head1 (Jvm.Cond.code (⟨"java/lang/Integer", "highestOneBit", "(I)I"⟩ : MethodName) jdk_33_method_45_code 1 (some .int) :: ws) ({ frames := 1, cells := 0, slots := 0, locals := 15 } : Room)) (fun a U => a = #[(.int x)] ∧ Z.Warmed39 U.vm ∧ U.heap = h0) (fun _ _ _ _ _ => True) (fun _ U o U' => ∃ v L, o = .returned v ∧ Q6 Z x h0 n0 v U'.heap L ∧ FrameEnd U o U' L ({ frames := 1, cells := 0, slots := 0, locals := 15 } : Room).cells ({ frames := 1, cells := 0, slots := 0, locals := 15 } : Room).slots) := by
  refine MetFree.of_bodySF (plainFor_of_name pn_6) hisR ?_
  intro p e s m args below meth c s₁ Bd hml0 hP hK
  obtain ⟨rfl, hZ, hh⟩ := hP
  have hnm := (name_of_methodNamed Bd.named Bd.method).1
  have C : own_C p s m c jdk_33_method_45_code "java/lang/Integer" Z 1 := ⟨Bd.exec, Bd.bytes, hZ, findClass_of_methodNamed Bd.named, hml0⟩
  have X0 : Stand p l e ({ frames := 1, cells := 0, slots := 0, locals := 15 } : Room) s m #[(.int x)] below meth c s₁ [] 0 0 := Stand.of_body Bd
  have e0 : s₁.heap = h0 := by rw [← hh, Bd.state]; rfl
  have N0 := Fr.nil n0
  show own_E p e below (own_R s below (Q6 Z x h0 n0) ({ frames := 1, cells := 0, slots := 0, locals := 15 } : Room).cells ({ frames := 1, cells := 0, slots := 0, locals := 15 } : Room).slots) s₁ (entryFrame m #[(.int x)] 1)
  rw [ef_6]
  refine own_iloadN C X0 d6_0 rfl rfl ?_
  refine own_ldcI C X0 (hw _ (List.mem_of_getElem? (i := 39) rfl)) d6_1 rfl ?_
  refine own_iloadN C X0 d6_3 rfl rfl ?_
  refine own_callS C X0 2 [.int x] (hw _ (List.mem_of_getElem? (i := 40) rfl)) (hw _ (List.mem_of_getElem? (i := 41) rfl)) (hw _ (List.mem_of_getElem? (i := 37) rfl)) (hw _ (List.mem_of_getElem? (i := 42) rfl)) (by decide) e0 (rm7 l Z a0 hw [] x h0 n0 Z0 h1 h2) rfl (by decide) (by decide) rfl (lenOf pd_I rfl) rfl (Nat.le_of_eq rfl) (by decide) (by decide) d6_4 rfl (fun _ _ _ q => q.1) fun T1_ L1_ X1_ Q1_ => ?_
  obtain ⟨-, N1, H1⟩ := Q1_
  refine own_iushr C X1_ d6_7 rfl ?_
  refine own_iand C X1_ d6_8 rfl ?_
  exact own_retI C X1_ Bd.returns Bd.notSynchronized (by decide) (by decide) d6_9 ⟨by rw [← own_hbE h1 h2], Fr.app N0 N1, H1⟩
theorem pd_II : parseMethodDescriptor "(II)I" = some ⟨[.int, .int], some .int⟩ := by decide +kernel
theorem own_arv {Z : State} {h : Heap} {a : Addr} {cl : Cell} {N : Nat} {tab : Nat → Int64} (A : Arr Z h a cl .long) (S : cl.slots.size = N) (hN : N ≤ 8192) (hat : ∀ i, i < N → cl.slots[i]? = some (.long (tab i))) : Arv Z h a cl.cls .long (Int32.ofNat N) ((List.range N).map fun i => .long (tab i)) (.long 0) := by
  have n1 : (Int32.ofNat N).toInt = N := Int32.toInt_ofNat_small (by omega)
  have n2 : (Int32.ofNat N).toNatClampNeg = N := by simp only [Int32.toNatClampNeg, n1]; omega
  refine ⟨cl, A, rfl, by rw [S, n2], by rw [own_lt, n1]; show ¬ ((N : Int) < 0); omega, fun i hi => ?_, fun i hi => ?_⟩
  · rw [S] at hi
    rw [hat i hi]
    simp [List.getD_eq_getElem?_getD, hi]
  · rw [S] at hi
    have : ((List.range N).map fun i => Value.long (tab i)).getD i (.long 0) = .long (tab i) := by simp [List.getD_eq_getElem?_getD, hi]
    rw [this]
    rfl
theorem own_sz {N : Nat} (hN : N ≤ 8192) : (Int32.ofNat N).toInt = N ∧ (Int32.ofNat N).toNatClampNeg = N ∧ N.toInt32 = Int32.ofNat N := by
  have n1 : (Int32.ofNat N).toInt = N := Int32.toInt_ofNat_small (by omega)
  exact ⟨n1, by simp only [Int32.toNatClampNeg, n1]; omega, rfl⟩
theorem d8_0 : decode jdk_65_method_124_code 0 = .ok (.iload_n 1, 1) := by decide +kernel
theorem d8_1 : decode jdk_65_method_124_code 1 = .ok (.aload_n 0, 1) := by decide +kernel
theorem d8_2 : decode jdk_65_method_124_code 2 = .ok (.arraylength, 1) := by decide +kernel
theorem d8_3 : decode jdk_65_method_124_code 3 = .ok (.if_icmp .ne 11, 3) := by decide +kernel
theorem d8_14 : decode jdk_65_method_124_code 14 = .ok (.iload_n 1, 1) := by decide +kernel
theorem d8_15 : decode jdk_65_method_124_code 15 = .ok (.newarray .long, 2) := by decide +kernel
theorem d8_17 : decode jdk_65_method_124_code 17 = .ok (.astore_n 2, 1) := by decide +kernel
theorem d8_18 : decode jdk_65_method_124_code 18 = .ok (.aload_n 0, 1) := by decide +kernel
theorem d8_19 : decode jdk_65_method_124_code 19 = .ok (.iconst 0, 1) := by decide +kernel
theorem d8_20 : decode jdk_65_method_124_code 20 = .ok (.aload_n 2, 1) := by decide +kernel
theorem d8_21 : decode jdk_65_method_124_code 21 = .ok (.iconst 0, 1) := by decide +kernel
theorem d8_22 : decode jdk_65_method_124_code 22 = .ok (.aload_n 0, 1) := by decide +kernel
theorem d8_23 : decode jdk_65_method_124_code 23 = .ok (.arraylength, 1) := by decide +kernel
theorem d8_24 : decode jdk_65_method_124_code 24 = .ok (.iload_n 1, 1) := by decide +kernel
theorem d8_25 : decode jdk_65_method_124_code 25 = .ok (.invokestatic 304, 3) := by decide +kernel
theorem d8_28 : decode jdk_65_method_124_code 28 = .ok (.invokestatic 150, 3) := by decide +kernel
theorem d8_31 : decode jdk_65_method_124_code 31 = .ok (.aload_n 2, 1) := by decide +kernel
theorem d8_32 : decode jdk_65_method_124_code 32 = .ok (.areturn, 1) := by decide +kernel
theorem pn_8 : plainName "java/util/Arrays" = true := by first | (simp [plainName, overriddenIn]; done) | decide +kernel
def Q8 (Z : State) (a1 : Addr) (nl : Int32) (cl : Cell) (N : Nat) (tab : Nat → Int64) (h0 : Heap) (n0 : Nat) (v : Option Value) (h : Heap) (L : List Loc) : Prop := v = some (.ref h0.size) ∧ Fr n0 L ∧ Keep h0 h [] ∧ ∃ c2 : Cell, Arr Z h h0.size c2 .long ∧ c2.slots.size = nl.toInt.toNat ∧ ∀ i, i < nl.toInt.toNat → c2.slots[i]? = some (.long (tab i))
theorem ef_8 (m : MethodId) (a1 : Addr) (nl : Int32) : entryFrame m #[(.ref a1), (.int nl)] 3 = mkF m 0 #[.val (.ref a1), .val (.int nl), .unset] [] := by first | (simp [entryFrame, mkF, argsToLocals, Value.category]; done) | rfl
set_option maxRecDepth 65536 in
set_option maxHeartbeats 40000000 in
theorem rm8 (l : Launch) (Z : State) (a0 : Array Value) (hw : ∀ d ∈ tables_1, d.before a0 Z = true) (ws : List Jvm.Cond) (a1 : Addr) (nl : Int32) (cl : Cell) (N : Nat) (tab : Nat → Int64) (h0 : Heap) (n0 : Nat) (Z0 : n0 ≤ h0.size) (A : Arr Z h0 a1 cl .long) (S : cl.slots.size = N) (hN : N ≤ 8192) (hat : ∀ i, i < N → cl.slots[i]? = some (.long (tab i))) (h1 : (N : Int) < nl.toInt) (h2 : nl.toInt ≤ 8192) (ht : ∀ i, N ≤ i → tab i = 0) :
    MetFree l (⟨"java/util/Arrays", "copyOf", "([JI)[J"⟩ : MethodName) (head1 (Jvm.Cond.code (⟨"java/util/Arrays", "copyOf", "([JI)[J"⟩ : MethodName) jdk_65_method_124_code 3 (some (.array .long)) :: ws) ({ frames := 1, cells := 1, slots := 8192, locals := 18 } : Room)) (fun a U => a = #[(.ref a1), (.int nl)] ∧ Z.Warmed39 U.vm ∧ U.heap = h0) (fun _ _ _ _ _ => True) (fun _ U o U' => ∃ v L, o = .returned v ∧ Q8 Z a1 nl cl N tab h0 n0 v U'.heap L ∧ FrameEnd U o U' L ({ frames := 1, cells := 1, slots := 8192, locals := 18 } : Room).cells ({ frames := 1, cells := 1, slots := 8192, locals := 18 } : Room).slots) := by
  refine MetFree.of_bodySF (plainFor_of_name pn_8) hisR ?_
  intro p e s m args below meth c s₁ Bd hml0 hP hK
  obtain ⟨rfl, hZ, hh⟩ := hP
  have hnm := (name_of_methodNamed Bd.named Bd.method).1
  have C : own_C p s m c jdk_65_method_124_code "java/util/Arrays" Z 3 := ⟨Bd.exec, Bd.bytes, hZ, findClass_of_methodNamed Bd.named, hml0⟩
  have X0 : Stand p l e ({ frames := 1, cells := 1, slots := 8192, locals := 18 } : Room) s m #[(.ref a1), (.int nl)] below meth c s₁ [] 0 0 := Stand.of_body Bd
  have e0 : s₁.heap = h0 := by rw [← hh, Bd.state]; rfl
  have N0 := Fr.nil n0
  show own_E p e below (own_R s below (Q8 Z a1 nl cl N tab h0 n0) ({ frames := 1, cells := 1, slots := 8192, locals := 18 } : Room).cells ({ frames := 1, cells := 1, slots := 8192, locals := 18 } : Room).slots) s₁ (entryFrame m #[(.ref a1), (.int nl)] 3)
  rw [ef_8]
  obtain ⟨s1, s2, s3⟩ := own_sz hN
  have nn : nl.toNatClampNeg = nl.toInt.toNat := by simp only [Int32.toNatClampNeg]
  have hz : cl.slots.size.toInt32 = Int32.ofNat N := by rw [S, s3]
  have zz : (0 : Int32).toInt = 0 := rfl
  refine own_iloadN C X0 d8_0 rfl rfl ?_
  refine own_aloadN C X0 d8_1 rfl rfl rfl ?_
  refine own_alen C X0 e0 A hz d8_2 rfl ?_
  refine own_icmpY (pc' := 14) C X0 d8_3 (feq (fun q => by rw [q, s1] at h1; exact absurd h1 (Int.lt_irrefl _))).2 (by decide) (by decide) ?_
  refine own_iloadN C X0 d8_14 rfl rfl ?_
  refine own_newP C X0 8192 (hw _ (List.mem_of_getElem? (i := 11) rfl)) e0 (by rw [own_lt, zz]; omega) (by rw [nn]; omega) (by decide) (by decide) (by decide) d8_15 rfl fun T1_ h1_ a1_ k1_ X1_ e1_ g1_ E1_ A1_ => ?_
  subst g1_
  have B1 := Arv.new A1_ (by rw [own_lt, zz]; omega)
  have B2 := B1.pad (vs' := [] ++ List.replicate nl.toInt.toNat (.long 0)) (pad_rep [] (.long 0) _)
  rw [List.nil_append] at B2
  have A2 := A.ext E1_
  refine own_astoreN (L' := #[_, _, _]) C X1_ d8_17 rfl rfl rfl ?_
  refine own_aloadN C X1_ d8_18 rfl rfl rfl ?_
  refine own_iconst C X1_ (0) d8_19 rfl rfl ?_
  refine own_aloadN C X1_ d8_20 rfl rfl rfl ?_
  refine own_iconst C X1_ (0) d8_21 rfl rfl ?_
  refine own_aloadN C X1_ d8_22 rfl rfl rfl ?_
  refine own_alen C X1_ e1_ A2 hz d8_23 rfl ?_
  refine own_iloadN C X1_ d8_24 rfl rfl ?_
  refine own_callS C X1_ 4 [.int (Int32.ofNat N), .int nl] (hw _ (List.mem_of_getElem? (i := 48) rfl)) (hw _ (List.mem_of_getElem? (i := 49) rfl)) (hw _ (List.mem_of_getElem? (i := 19) rfl)) (hw _ (List.mem_of_getElem? (i := 50) rfl)) (by decide) e1_ (rm9 l Z a0 hw [] (Int32.ofNat N) nl h1_ n0 (Nat.le_trans Z0 E1_.1) (by rw [own_lt, s1]; omega)) rfl (by decide) (by decide) rfl (lenOf pd_II rfl) rfl (Nat.le_of_eq rfl) (by decide) (by decide) d8_25 rfl (fun _ _ _ q => q.1) fun T2_ L2_ X2_ Q2_ => ?_
  obtain ⟨-, N1, H1⟩ := Q2_
  have N2 := Fr.app N0 N1
  have A3 := own_arv A2 S hN hat
  rw [← H1] at A3 B2
  refine own_cpA C X2_ (n0 := n0) 0 (hw _ (List.mem_of_getElem? (i := 51) rfl)) (hw _ (List.mem_of_getElem? (i := 54) rfl)) (hw _ (List.mem_of_getElem? (i := 52) rfl)) (hw _ (List.mem_of_getElem? (i := 53) rfl)) rfl A3 B2 (by rw [own_lt, s1, zz]; omega) (Nat.le_refl _) (by rw [s2, nn]; omega) (by rw [s2, List.length_replicate]; omega) N2 Z0 rfl (by decide) (Nat.le_of_eq rfl) (by decide) d8_28 rfl fun T9_ h9_ L9_ X9_ e9_ N9 K9 B9 => ?_
  rw [s2] at B9
  subst e9_
  obtain ⟨c2, C2, -, D2, -, F2, -⟩ := B9
  rw [nn] at D2
  have K10 : Keep h0 T9_.heap [] := ((Keep.refl h0 []).ext E1_).trans (H1 ▸ K9) (allS (Or.inr (Nat.le_refl _)) all0)
  refine own_aloadN C X9_ d8_31 rfl rfl rfl ?_
  refine own_retA C X9_ Bd.returns Bd.notSynchronized (by decide) (by decide) d8_32 ⟨rfl, N9, K10, c2, C2, D2, fun i hi => ?_⟩
  rw [F2 i (by rw [D2]; exact hi)]
  by_cases q : i < N
  · simp [List.getD_eq_getElem?_getD, List.getElem?_append, q]
  · rw [ht i (by omega)]
    simp [List.getD_eq_getElem?_getD, List.getElem?_append, q]
    rw [List.getElem?_replicate]
    split <;> rfl
theorem pd_JJ : parseMethodDescriptor "(JJ)J" = some ⟨[.long, .long], some .long⟩ := by decide +kernel
theorem d1_0 : decode prog_172_method_1_code 0 = .ok (.aload_n 0, 1) := by decide +kernel
theorem d1_1 : decode prog_172_method_1_code 1 = .ok (.invokespecial 1, 3) := by decide +kernel
theorem d1_4 : decode prog_172_method_1_code 4 = .ok (.aload_n 0, 1) := by decide +kernel
theorem d1_5 : decode prog_172_method_1_code 5 = .ok (.sipush 1024, 3) := by decide +kernel
theorem d1_8 : decode prog_172_method_1_code 8 = .ok (.newarray .long, 2) := by decide +kernel
theorem d1_10 : decode prog_172_method_1_code 10 = .ok (.putfield 9, 3) := by decide +kernel
theorem d1_13 : decode prog_172_method_1_code 13 = .ok (.aload_n 0, 1) := by decide +kernel
theorem d1_14 : decode prog_172_method_1_code 14 = .ok (.iconst (-1), 1) := by decide +kernel
theorem d1_15 : decode prog_172_method_1_code 15 = .ok (.putfield 13, 3) := by decide +kernel
theorem d1_18 : decode prog_172_method_1_code 18 = .ok (.aload_n 0, 1) := by decide +kernel
theorem d1_19 : decode prog_172_method_1_code 19 = .ok (.lload_n 1, 1) := by decide +kernel
theorem d1_20 : decode prog_172_method_1_code 20 = .ok (.ldc2_w 17, 3) := by decide +kernel
theorem d1_23 : decode prog_172_method_1_code 23 = .ok (.invokestatic 19, 3) := by decide +kernel
theorem d1_26 : decode prog_172_method_1_code 26 = .ok (.putfield 25, 3) := by decide +kernel
theorem d1_29 : decode prog_172_method_1_code 29 = .ok (.return_, 1) := by decide +kernel
theorem pn_1 : plainName "com/example/isolith/isolith/history/WriteTable" = true := by first | (simp [plainName, overriddenIn]; done) | decide +kernel
def Q1 (Z : State) (a1 : Addr) (b : Int64) (h0 : Heap) (n0 : Nat) (v : Option Value) (h : Heap) (L : List Loc) : Prop := v = none ∧ Fr n0 L ∧ own_Tb Z h a1 n0 (own_minL b 1073741824) (fun _ => 0)
theorem ef_1 (m : MethodId) (a1 : Addr) (b : Int64) : entryFrame m #[(.ref a1), (.long b)] 3 = mkF m 0 #[.val (.ref a1), .val (.long b), .second] [] := by first | (simp [entryFrame, mkF, argsToLocals, Value.category]; done) | rfl
set_option maxRecDepth 65536 in
set_option maxHeartbeats 40000000 in
theorem rm1 (l : Launch) (Z : State) (a0 : Array Value) (hw : ∀ d ∈ tables_1, d.before a0 Z = true) (ws : List Jvm.Cond) (a1 : Addr) (b : Int64) (h0 : Heap) (n0 : Nat) (Z0 : n0 ≤ h0.size) (E1 : Exa Z h0 a1 "com/example/isolith/isolith/history/WriteTable") (F_slots : Fld Z h0 a1 "com/example/isolith/isolith/history/WriteTable" "slots" "[J" (.null)) (F_firstRepeated : Fld Z h0 a1 "com/example/isolith/isolith/history/WriteTable" "firstRepeated" "I" (.int 0)) (F_bound : Fld Z h0 a1 "com/example/isolith/isolith/history/WriteTable" "bound" "J" (.long 0)) (g1 : n0 ≤ a1) :
    MetFree l (⟨"com/example/isolith/isolith/history/WriteTable", "<init>", "(J)V"⟩ : MethodName) (head1 (Jvm.Cond.code (⟨"com/example/isolith/isolith/history/WriteTable", "<init>", "(J)V"⟩ : MethodName) prog_172_method_1_code 3 none :: ws) ({ frames := 1, cells := 1, slots := 1024, locals := 16 } : Room)) (fun a U => a = #[(.ref a1), (.long b)] ∧ Z.Warmed39 U.vm ∧ U.heap = h0) (fun _ _ _ _ _ => True) (fun _ U o U' => ∃ v L, o = .returned v ∧ Q1 Z a1 b h0 n0 v U'.heap L ∧ FrameEnd U o U' L ({ frames := 1, cells := 1, slots := 1024, locals := 16 } : Room).cells ({ frames := 1, cells := 1, slots := 1024, locals := 16 } : Room).slots) := by
  refine MetFree.of_bodySF (plainFor_of_name pn_1) hisR ?_
  intro p e s m args below meth c s₁ Bd hml0 hP hK
  obtain ⟨rfl, hZ, hh⟩ := hP
  have hnm := (name_of_methodNamed Bd.named Bd.method).1
  have C : own_C p s m c prog_172_method_1_code "com/example/isolith/isolith/history/WriteTable" Z 3 := ⟨Bd.exec, Bd.bytes, hZ, findClass_of_methodNamed Bd.named, hml0⟩
  have X0 : Stand p l e ({ frames := 1, cells := 1, slots := 1024, locals := 16 } : Room) s m #[(.ref a1), (.long b)] below meth c s₁ [] 0 0 := Stand.of_body Bd
  have e0 : s₁.heap = h0 := by rw [← hh, Bd.state]; rfl
  have N0 := Fr.nil n0
  show own_E p e below (own_R s below (Q1 Z a1 b h0 n0) ({ frames := 1, cells := 1, slots := 1024, locals := 16 } : Room).cells ({ frames := 1, cells := 1, slots := 1024, locals := 16 } : Room).slots) s₁ (entryFrame m #[(.ref a1), (.long b)] 3)
  rw [ef_1]
  refine own_aloadN C X0 d1_0 rfl rfl rfl ?_
  refine own_initO C X0 0 (hw _ (List.mem_of_getElem? (i := 8) rfl)) (hw _ (List.mem_of_getElem? (i := 9) rfl)) (hw _ (List.mem_of_getElem? (i := 10) rfl)) e0 rfl (by decide) (Nat.le_of_eq rfl) (by decide) d1_1 rfl fun T1_ X1_ e1_ => ?_
  refine own_aloadN C X1_ d1_4 rfl rfl rfl ?_
  refine own_sipush C X1_ (1024) d1_5 rfl rfl ?_
  refine own_newP C X1_ 1024 (hw _ (List.mem_of_getElem? (i := 11) rfl)) e1_ (by decide) (by decide) (by decide) (by decide) (by decide) d1_8 rfl fun T2_ h2_ a2_ k2_ X2_ e2_ g2_ E2_ A2_ => ?_
  have SA : (newA k2_ (newarray.typeOf .long) 1024).slots.size = 1024 := sz_new _ _ _
  have HA : ∀ i, i < 1024 → (newA k2_ (newarray.typeOf .long) 1024).slots[i]? = some (.long ((fun _ => 0 : Nat → Int64) i)) := fun i hi => by
    show (Array.replicate (1024 : Int32).toNatClampNeg (Value.long 0))[i]? = _
    rw [show (1024 : Int32).toNatClampNeg = 1024 from rfl]
    simp [hi]
  generalize newA k2_ (newarray.typeOf .long) 1024 = cl at *
  have ga : n0 ≤ a2_ := by rw [g2_]; exact Z0
  have na : a1 ≠ a2_ := own_ne E1.lt g2_
  have G_slots := F_slots.ext E2_
  have G_firstRepeated := F_firstRepeated.ext E2_
  have G_bound := F_bound.ext E2_
  have EE := E1.ext E2_
  refine own_putF C X2_ (hw _ (List.mem_of_getElem? (i := 12) rfl)) Via.refl e2_ G_slots EE (Or.inl (hw _ (List.mem_of_getElem? (i := 13) rfl))) (hw _ (List.mem_of_getElem? (i := 3) rfl)) (ty := .array .long) (by decide) rfl rfl d1_10 rfl fun T3_ h3_ X3_ e3_ W3_ F3_ E3_ => ?_
  have AA := A2_.other W3_ na.symm
  have G2 := G_firstRepeated.other W3_ (Or.inr (slot_ne (t := .int) (t' := .array .long) (Or.inl (hw _ (List.mem_of_getElem? (i := 15) rfl))) (Or.inl (hw _ (List.mem_of_getElem? (i := 13) rfl))) (by decide) (by decide) (by decide)))
  have G3 := G_bound.other W3_ (Or.inr (slot_ne (t := .long) (t' := .array .long) (Or.inr (hw _ (List.mem_of_getElem? (i := 22) rfl))) (Or.inl (hw _ (List.mem_of_getElem? (i := 13) rfl))) (by decide) (by decide) (by decide)))
  have N1 := Fr.snoc X3_ N0 g1
  refine own_aloadN C X3_ d1_13 rfl rfl rfl ?_
  refine own_iconst C X3_ (-1) d1_14 rfl rfl ?_
  refine own_putF C X3_ (hw _ (List.mem_of_getElem? (i := 14) rfl)) Via.refl e3_ G2 E3_ (Or.inl (hw _ (List.mem_of_getElem? (i := 15) rfl))) (hw _ (List.mem_of_getElem? (i := 3) rfl)) (ty := .int) (by decide) rfl rfl d1_15 rfl fun T4_ h4_ X4_ e4_ W4_ F4_ E4_ => ?_
  have AB := AA.other W4_ na.symm
  have G4 := F3_.other W4_ (Or.inr (slot_ne (t := .array .long) (t' := .int) (Or.inl (hw _ (List.mem_of_getElem? (i := 13) rfl))) (Or.inl (hw _ (List.mem_of_getElem? (i := 15) rfl))) (by decide) (by decide) (by decide)))
  have G5 := G3.other W4_ (Or.inr (slot_ne (t := .long) (t' := .int) (Or.inr (hw _ (List.mem_of_getElem? (i := 22) rfl))) (Or.inl (hw _ (List.mem_of_getElem? (i := 15) rfl))) (by decide) (by decide) (by decide)))
  have N2 := Fr.snoc X4_ N1 g1
  have z1 := Nat.le_trans (Nat.le_trans (Nat.le_trans Z0 E2_.1) (Nat.le_of_eq W3_.size.symm)) (Nat.le_of_eq W4_.size.symm)
  refine own_aloadN C X4_ d1_18 rfl rfl rfl ?_
  refine own_lloadN C X4_ d1_19 rfl rfl ?_
  refine own_ldcJ C X4_ (hw _ (List.mem_of_getElem? (i := 16) rfl)) d1_20 rfl ?_
  refine own_callS C X4_ 1 [.long b, .long 1073741824] (hw _ (List.mem_of_getElem? (i := 17) rfl)) (hw _ (List.mem_of_getElem? (i := 18) rfl)) (hw _ (List.mem_of_getElem? (i := 19) rfl)) (hw _ (List.mem_of_getElem? (i := 20) rfl)) (by decide) e4_ (rm3 l Z a0 hw [] b 1073741824 h4_ n0 z1) rfl (by decide) (by decide) rfl (lenOf pd_JJ rfl) rfl (Nat.le_of_eq rfl) (by decide) (by decide) d1_23 rfl (fun _ _ _ q => q.1) fun T5_ L5_ X5_ Q5_ => ?_
  obtain ⟨-, N3q, H3⟩ := Q5_
  have N3 := Fr.app N2 N3q
  refine own_putF C X5_ (hw _ (List.mem_of_getElem? (i := 21) rfl)) Via.refl rfl (H3.symm ▸ G5) (H3.symm ▸ E4_) (Or.inr ⟨(hw _ (List.mem_of_getElem? (i := 22) rfl)), rfl, hnm⟩) (hw _ (List.mem_of_getElem? (i := 3) rfl)) (ty := .long) (by decide) rfl rfl d1_26 rfl fun T6_ h6_ X6_ e6_ W6_ F6_ E6_ => ?_
  have AC := (H3.symm ▸ AB : Arr Z T5_.heap a2_ cl .long).other W6_ na.symm
  have G6 := (H3.symm ▸ G4 : Fld Z T5_.heap a1 "com/example/isolith/isolith/history/WriteTable" "slots" "[J" (.ref a2_)).other W6_ (Or.inr (slot_ne (t := .array .long) (t' := .long) (Or.inl (hw _ (List.mem_of_getElem? (i := 13) rfl))) (Or.inr (hw _ (List.mem_of_getElem? (i := 22) rfl))) (by decide) (by decide) (by decide)))
  have G7 := (H3.symm ▸ F4_ : Fld Z T5_.heap a1 "com/example/isolith/isolith/history/WriteTable" "firstRepeated" "I" (.int (-1))).other W6_ (Or.inr (slot_ne (t := .int) (t' := .long) (Or.inl (hw _ (List.mem_of_getElem? (i := 15) rfl))) (Or.inr (hw _ (List.mem_of_getElem? (i := 22) rfl))) (by decide) (by decide) (by decide)))
  subst e6_
  exact own_retV C X6_ Bd.returns Bd.notSynchronized (by decide) (by decide) d1_29 ⟨rfl, Fr.snoc X6_ N3 g1, E6_, F6_, _, _, cl, 1024, ga, G6, G7, AC, SA, by decide, by decide, HA, fun _ _ => rfl⟩
theorem d4_0 : decode prog_172_method_2_code 0 = .ok (.lload_n 3, 1) := by decide +kernel
theorem d4_1 : decode prog_172_method_2_code 1 = .ok (.lconst 0, 1) := by decide +kernel
theorem d4_2 : decode prog_172_method_2_code 2 = .ok (.lcmp, 1) := by decide +kernel
theorem d4_3 : decode prog_172_method_2_code 3 = .ok (.ifCond .le 12, 3) := by decide +kernel
theorem d4_6 : decode prog_172_method_2_code 6 = .ok (.lload_n 3, 1) := by decide +kernel
theorem d4_7 : decode prog_172_method_2_code 7 = .ok (.aload_n 0, 1) := by decide +kernel
theorem d4_8 : decode prog_172_method_2_code 8 = .ok (.getfield 25, 3) := by decide +kernel
theorem d4_11 : decode prog_172_method_2_code 11 = .ok (.lcmp, 1) := by decide +kernel
theorem d4_12 : decode prog_172_method_2_code 12 = .ok (.ifCond .lt 5, 3) := by decide +kernel
theorem d4_15 : decode prog_172_method_2_code 15 = .ok (.iconst 0, 1) := by decide +kernel
theorem d4_16 : decode prog_172_method_2_code 16 = .ok (.ireturn, 1) := by decide +kernel
theorem d4_17 : decode prog_172_method_2_code 17 = .ok (.lload_n 3, 1) := by decide +kernel
theorem d4_18 : decode prog_172_method_2_code 18 = .ok (.l2i, 1) := by decide +kernel
theorem d4_19 : decode prog_172_method_2_code 19 = .ok (.istore 5, 2) := by decide +kernel
theorem d4_21 : decode prog_172_method_2_code 21 = .ok (.iload 5, 2) := by decide +kernel
theorem d4_23 : decode prog_172_method_2_code 23 = .ok (.aload_n 0, 1) := by decide +kernel
theorem d4_24 : decode prog_172_method_2_code 24 = .ok (.getfield 9, 3) := by decide +kernel
theorem d4_27 : decode prog_172_method_2_code 27 = .ok (.arraylength, 1) := by decide +kernel
theorem d4_28 : decode prog_172_method_2_code 28 = .ok (.if_icmp .lt 21, 3) := by decide +kernel
theorem d4_31 : decode prog_172_method_2_code 31 = .ok (.aload_n 0, 1) := by decide +kernel
theorem d4_32 : decode prog_172_method_2_code 32 = .ok (.aload_n 0, 1) := by decide +kernel
theorem d4_33 : decode prog_172_method_2_code 33 = .ok (.getfield 9, 3) := by decide +kernel
theorem d4_36 : decode prog_172_method_2_code 36 = .ok (.iload 5, 2) := by decide +kernel
theorem d4_38 : decode prog_172_method_2_code 38 = .ok (.invokestatic 29, 3) := by decide +kernel
theorem d4_41 : decode prog_172_method_2_code 41 = .ok (.iconst 1, 1) := by decide +kernel
theorem d4_42 : decode prog_172_method_2_code 42 = .ok (.ishl, 1) := by decide +kernel
theorem d4_43 : decode prog_172_method_2_code 43 = .ok (.invokestatic 35, 3) := by decide +kernel
theorem d4_46 : decode prog_172_method_2_code 46 = .ok (.putfield 9, 3) := by decide +kernel
theorem d4_49 : decode prog_172_method_2_code 49 = .ok (.aload_n 0, 1) := by decide +kernel
theorem d4_50 : decode prog_172_method_2_code 50 = .ok (.getfield 9, 3) := by decide +kernel
theorem d4_53 : decode prog_172_method_2_code 53 = .ok (.iload 5, 2) := by decide +kernel
theorem d4_55 : decode prog_172_method_2_code 55 = .ok (.laload, 1) := by decide +kernel
theorem d4_56 : decode prog_172_method_2_code 56 = .ok (.lstore 6, 2) := by decide +kernel
theorem d4_58 : decode prog_172_method_2_code 58 = .ok (.lload 6, 2) := by decide +kernel
theorem d4_60 : decode prog_172_method_2_code 60 = .ok (.lconst 0, 1) := by decide +kernel
theorem d4_61 : decode prog_172_method_2_code 61 = .ok (.lcmp, 1) := by decide +kernel
theorem d4_62 : decode prog_172_method_2_code 62 = .ok (.ifCond .ne 22, 3) := by decide +kernel
theorem d4_65 : decode prog_172_method_2_code 65 = .ok (.aload_n 0, 1) := by decide +kernel
theorem d4_66 : decode prog_172_method_2_code 66 = .ok (.getfield 9, 3) := by decide +kernel
theorem d4_69 : decode prog_172_method_2_code 69 = .ok (.iload 5, 2) := by decide +kernel
theorem d4_71 : decode prog_172_method_2_code 71 = .ok (.iload_n 2, 1) := by decide +kernel
theorem d4_72 : decode prog_172_method_2_code 72 = .ok (.i2l, 1) := by decide +kernel
theorem d4_73 : decode prog_172_method_2_code 73 = .ok (.bipush 32, 2) := by decide +kernel
theorem d4_75 : decode prog_172_method_2_code 75 = .ok (.lshl, 1) := by decide +kernel
theorem d4_76 : decode prog_172_method_2_code 76 = .ok (.iload_n 1, 1) := by decide +kernel
theorem d4_77 : decode prog_172_method_2_code 77 = .ok (.iconst 1, 1) := by decide +kernel
theorem d4_78 : decode prog_172_method_2_code 78 = .ok (.iadd, 1) := by decide +kernel
theorem d4_79 : decode prog_172_method_2_code 79 = .ok (.i2l, 1) := by decide +kernel
theorem d4_80 : decode prog_172_method_2_code 80 = .ok (.lor, 1) := by decide +kernel
theorem d4_81 : decode prog_172_method_2_code 81 = .ok (.lastore, 1) := by decide +kernel
theorem d4_82 : decode prog_172_method_2_code 82 = .ok (.iconst 1, 1) := by decide +kernel
theorem d4_83 : decode prog_172_method_2_code 83 = .ok (.ireturn, 1) := by decide +kernel
theorem d4_84 : decode prog_172_method_2_code 84 = .ok (.lload 6, 2) := by decide +kernel
theorem d4_86 : decode prog_172_method_2_code 86 = .ok (.bipush 32, 2) := by decide +kernel
theorem d4_88 : decode prog_172_method_2_code 88 = .ok (.lushr, 1) := by decide +kernel
theorem d4_89 : decode prog_172_method_2_code 89 = .ok (.l2i, 1) := by decide +kernel
theorem d4_90 : decode prog_172_method_2_code 90 = .ok (.iload_n 2, 1) := by decide +kernel
theorem d4_91 : decode prog_172_method_2_code 91 = .ok (.if_icmp .eq 5, 3) := by decide +kernel
theorem d4_94 : decode prog_172_method_2_code 94 = .ok (.iconst 0, 1) := by decide +kernel
theorem d4_95 : decode prog_172_method_2_code 95 = .ok (.ireturn, 1) := by decide +kernel
theorem d4_96 : decode prog_172_method_2_code 96 = .ok (.aload_n 0, 1) := by decide +kernel
theorem d4_97 : decode prog_172_method_2_code 97 = .ok (.getfield 13, 3) := by decide +kernel
theorem d4_100 : decode prog_172_method_2_code 100 = .ok (.ifCond .ge 8, 3) := by decide +kernel
theorem d4_103 : decode prog_172_method_2_code 103 = .ok (.aload_n 0, 1) := by decide +kernel
theorem d4_104 : decode prog_172_method_2_code 104 = .ok (.iload_n 1, 1) := by decide +kernel
theorem d4_105 : decode prog_172_method_2_code 105 = .ok (.putfield 13, 3) := by decide +kernel
theorem d4_108 : decode prog_172_method_2_code 108 = .ok (.iconst 1, 1) := by decide +kernel
theorem d4_109 : decode prog_172_method_2_code 109 = .ok (.ireturn, 1) := by decide +kernel
def own_QA (Z : State) (a1 : Addr) (b : Int64) (tab : Nat → Int64) (op key : Int32) (u : Int64) (n0 : Nat) (v : Option Value) (h : Heap) (L : List Loc) : Prop := v = some (.int (own_ar b tab key u)) ∧ Fr n0 L ∧ own_Tb Z h a1 n0 b (own_at b tab op key u)
set_option maxRecDepth 65536 in
set_option maxHeartbeats 40000000 in
theorem own_add49 {p : Program} {l : Launch} {e : Env} {R : Room} {s : State} {m : MethodId} {args : Array Value} {below : List Frame} {meth : Method} {c : Code} {T : State} {locs : List Loc} {cells slots : Nat} {Z : State} {a0 : Array Value} (hw : ∀ d ∈ tables_1, d.before a0 Z = true) {h : Heap} {a1 ar : Addr} {b u : Int64} {tab : Nat → Int64} {op key f : Int32} {cl : Cell} {N n0 : Nat} (C : own_C p s m c prog_172_method_2_code "com/example/isolith/isolith/history/WriteTable" Z 8) (X0 : Stand p l e R s m args below meth c T locs cells slots) (hret : meth.sig.returnType = some .boolean) (hlk : meth.locks = false) (e0 : T.heap = h) (EX : Exa Z h a1 "com/example/isolith/isolith/history/WriteTable") (FB : Fld Z h a1 "com/example/isolith/isolith/history/WriteTable" "bound" "J" (.long b)) (FS : Fld Z h a1 "com/example/isolith/isolith/history/WriteTable" "slots" "[J" (.ref ar)) (FF : Fld Z h a1 "com/example/isolith/isolith/history/WriteTable" "firstRepeated" "I" (.int f)) (A : Arr Z h ar cl .long) (S : cl.slots.size = N) (hN1 : 1024 ≤ N) (hN2 : N ≤ 8192) (hat : ∀ i, i < N → cl.slots[i]? = some (.long (tab i))) (ht : ∀ i, N ≤ i → tab i = 0) (g1 : n0 ≤ a1) (ga : n0 ≤ ar) (N0 : Fr n0 locs) (u0 : 0 < u) (u1 : u < b) (u2 : u.toInt ≤ 8191) (hi : own_ix u < N) (hk : cells ≤ 1) (hn : slots ≤ 8192) :
    own_E p e below (own_R s below (own_QA Z a1 b tab op key u n0) 1 8192) T (mkF m 49 #[.val (.ref a1), .val (.int op), .val (.int key), .val (.long u), .second, .val (.int u.toInt32), .unset, .unset] []) := by
  have na : a1 ≠ ar := ne_arr EX (hw _ (List.mem_of_getElem? (i := 3) rfl)) A
  have xi := own_i32 u0 u2
  have xc := own_ixC u0 u2
  have up : 0 < u.toInt := by rw [own_ltL, own_z64] at u0; exact u0
  have hj : ¬ (u.toInt32 < 0 ∨ cl.slots.size ≤ u.toInt32.toNatClampNeg) := by rw [xc, S, own_lt, xi]; show ¬ (u.toInt < 0 ∨ _); omega
  have hv : cl.slots[u.toInt32.toNatClampNeg]? = some (.long (tab (own_ix u))) := by rw [xc]; exact hat _ hi
  refine own_aloadN C X0 d4_49 rfl rfl rfl ?_
  refine own_getF C X0 (hw _ (List.mem_of_getElem? (i := 12) rfl)) Via.refl e0 FS d4_50 rfl fun T1_ X1_ e1_ => ?_
  refine own_iload C X1_ d4_53 rfl rfl ?_
  refine own_laload C X1_ e1_ A hj hv d4_55 rfl ?_
  refine own_lstore (L' := #[_, _, _, _, _, _, _, _]) C X1_ d4_56 rfl rfl ?_
  refine own_lload C X1_ d4_58 rfl rfl ?_
  refine own_lconst C X1_ (0) d4_60 rfl rfl ?_
  by_cases t0 : tab (own_ix u) = 0
  · refine own_lcmp C X1_ d4_61 rfl ?_
    refine own_ifN C X1_ d4_62 ((if0 _ _).trans (teq ((lw_eq _ _).mpr t0)).2) rfl ?_
    refine own_aloadN C X1_ d4_65 rfl rfl rfl ?_
    refine own_getF C X1_ (hw _ (List.mem_of_getElem? (i := 12) rfl)) Via.refl e1_ FS d4_66 rfl fun T2_ X2_ e2_ => ?_
    refine own_iload C X2_ d4_69 rfl rfl ?_
    refine own_iloadN C X2_ d4_71 rfl rfl ?_
    refine own_i2l C X2_ d4_72 rfl ?_
    refine own_bipush C X2_ (32) d4_73 rfl rfl ?_
    refine own_lshl C X2_ d4_75 rfl ?_
    refine own_iloadN C X2_ d4_76 rfl rfl ?_
    refine own_iconst C X2_ (1) d4_77 rfl rfl ?_
    refine own_iadd C X2_ d4_78 rfl ?_
    refine own_i2l C X2_ d4_79 rfl ?_
    refine own_lor C X2_ d4_80 rfl ?_
    refine own_lastore C X2_ e2_ A hj d4_81 rfl fun T3_ h3_ X3_ e3_ W3_ A3_ => ?_
    rw [xc] at W3_ A3_
    subst e3_
    refine own_iconst C X3_ (1) d4_82 rfl rfl ?_
    refine own_retN C X3_ hret (by simp) hlk hk hn d4_83 ⟨by rw [own_ar, if_pos ⟨u0, u1⟩, if_pos t0] <;> rfl, Fr.snoc X3_ N0 ga, EX.wr W3_, FB.other W3_ (Or.inl na), ar, f, _, N, ga, FS.other W3_ (Or.inl na), FF.other W3_ (Or.inl na), A3_, own_setS S, hN1, hN2, fun i h => ?_, fun i h => ?_⟩
    · rw [own_set (by rw [S]; exact hi), own_atP]
      by_cases q : own_ix u = i
      · rw [if_pos q, if_pos ⟨⟨u0, u1, t0⟩, q.symm⟩]; rfl
      · rw [if_neg q, if_neg (fun z => q z.2.symm)]; exact hat i h
    · rw [own_atP, if_neg (fun z => absurd z.2 (by omega))]; exact ht i h
  refine own_lcmp C X1_ d4_61 rfl ?_
  refine own_ifY (pc' := 84) C X1_ d4_62 ((if0 _ _).trans (feq (fun q => t0 ((lw_eq _ _).mp q))).2) (by decide) (by decide) ?_
  refine own_lload C X1_ d4_84 rfl rfl ?_
  refine own_bipush C X1_ (32) d4_86 rfl rfl ?_
  refine own_lushr C X1_ d4_88 rfl ?_
  refine own_l2i C X1_ d4_89 rfl ?_
  refine own_iloadN C X1_ d4_90 rfl rfl ?_
  have na' : own_at b tab op key u = tab := by rw [own_at, if_neg (fun q => t0 q.2.2)]
  by_cases t1 : own_hi (tab (own_ix u)) = key
  · refine own_icmpY (pc' := 96) C X1_ d4_91 (teq t1).1 (by decide) (by decide) ?_
    refine own_aloadN C X1_ d4_96 rfl rfl rfl ?_
    refine own_getF C X1_ (hw _ (List.mem_of_getElem? (i := 14) rfl)) Via.refl e1_ FF d4_97 rfl fun T2_ X2_ e2_ => ?_
    by_cases t2 : f < 0
    · refine own_ifN C X2_ d4_100 ((if0 _ _).trans (tlt t2).2.1) rfl ?_
      refine own_aloadN C X2_ d4_103 rfl rfl rfl ?_
      refine own_iloadN C X2_ d4_104 rfl rfl ?_
      refine own_putF C X2_ (hw _ (List.mem_of_getElem? (i := 14) rfl)) Via.refl e2_ FF EX (Or.inl (hw _ (List.mem_of_getElem? (i := 15) rfl))) (hw _ (List.mem_of_getElem? (i := 3) rfl)) (ty := .int) (by decide) rfl rfl d4_105 rfl fun T3_ h3_ X3_ e3_ W3_ F3_ E3_ => ?_
      subst e3_
      refine own_iconst C X3_ (1) d4_108 rfl rfl ?_
      exact own_retN C X3_ hret (by simp) hlk hk hn d4_109 ⟨by rw [own_ar, if_pos ⟨u0, u1⟩, if_neg t0, if_pos t1] <;> rfl, Fr.snoc X3_ N0 g1, by rw [na']; exact ⟨E3_, FB.other W3_ (Or.inr (slot_ne (t := .long) (t' := .int) (Or.inr (hw _ (List.mem_of_getElem? (i := 22) rfl))) (Or.inl (hw _ (List.mem_of_getElem? (i := 15) rfl))) (by decide) (by decide) (by decide))), ar, op, cl, N, ga, FS.other W3_ (Or.inr (slot_ne (t := .array .long) (t' := .int) (Or.inl (hw _ (List.mem_of_getElem? (i := 13) rfl))) (Or.inl (hw _ (List.mem_of_getElem? (i := 15) rfl))) (by decide) (by decide) (by decide))), F3_, A.other W3_ na.symm, S, hN1, hN2, hat, ht⟩⟩
    · refine own_ifY (pc' := 108) C X2_ d4_100 ((if0 _ _).trans (flt t2).2.1) (by decide) (by decide) ?_
      refine own_iconst C X2_ (1) d4_108 rfl rfl ?_
      have ee := e2_
      subst ee
      exact own_retN C X2_ hret (by simp) hlk hk hn d4_109 ⟨by rw [own_ar, if_pos ⟨u0, u1⟩, if_neg t0, if_pos t1] <;> rfl, N0, by rw [na']; exact ⟨EX, FB, ar, f, cl, N, ga, FS, FF, A, S, hN1, hN2, hat, ht⟩⟩
  · refine own_icmpN C X1_ d4_91 (feq t1).1 rfl ?_
    refine own_iconst C X1_ (0) d4_94 rfl rfl ?_
    have ee := e1_
    subst ee
    exact own_retN C X1_ hret (by simp) hlk hk hn d4_95 ⟨by rw [own_ar, if_pos ⟨u0, u1⟩, if_neg t0, if_neg t1] <;> rfl, N0, by rw [na']; exact ⟨EX, FB, ar, f, cl, N, ga, FS, FF, A, S, hN1, hN2, hat, ht⟩⟩
theorem pd_AI : parseMethodDescriptor "([JI)[J" = some ⟨[.array .long, .int], some (.array .long)⟩ := by decide +kernel
theorem pn_4 : plainName "com/example/isolith/isolith/history/WriteTable" = true := by first | (simp [plainName, overriddenIn]; done) | decide +kernel
def Q4 (Z : State) (a1 : Addr) (b : Int64) (tab : Nat → Int64) (op : Int32) (key : Int32) (u : Int64) (h0 : Heap) (n0 : Nat) (v : Option Value) (h : Heap) (L : List Loc) : Prop := own_QA Z a1 b tab op key u n0 v h L
theorem ef_4 (m : MethodId) (a1 : Addr) (op : Int32) (key : Int32) (u : Int64) : entryFrame m #[(.ref a1), (.int op), (.int key), (.long u)] 8 = mkF m 0 #[.val (.ref a1), .val (.int op), .val (.int key), .val (.long u), .second, .unset, .unset, .unset] [] := by first | (simp [entryFrame, mkF, argsToLocals, Value.category]; done) | rfl
set_option maxRecDepth 65536 in
set_option maxHeartbeats 40000000 in
theorem rm4 (l : Launch) (Z : State) (a0 : Array Value) (hw : ∀ d ∈ tables_1, d.before a0 Z = true) (ws : List Jvm.Cond) (a1 : Addr) (b : Int64) (tab : Nat → Int64) (op : Int32) (key : Int32) (u : Int64) (h0 : Heap) (n0 : Nat) (Z0 : n0 ≤ h0.size) (B : own_Tb Z h0 a1 n0 b tab) (g1 : n0 ≤ a1) (u2 : u.toInt ≤ 8191) :
    MetFree l (⟨"com/example/isolith/isolith/history/WriteTable", "add", "(IIJ)Z"⟩ : MethodName) (head1 (Jvm.Cond.code (⟨"com/example/isolith/isolith/history/WriteTable", "add", "(IIJ)Z"⟩ : MethodName) prog_172_method_2_code 8 (some .boolean) :: ws) ({ frames := 2, cells := 1, slots := 8192, locals := 33 } : Room)) (fun a U => a = #[(.ref a1), (.int op), (.int key), (.long u)] ∧ Z.Warmed39 U.vm ∧ U.heap = h0) (fun _ _ _ _ _ => True) (fun _ U o U' => ∃ v L, o = .returned v ∧ Q4 Z a1 b tab op key u h0 n0 v U'.heap L ∧ FrameEnd U o U' L ({ frames := 2, cells := 1, slots := 8192, locals := 33 } : Room).cells ({ frames := 2, cells := 1, slots := 8192, locals := 33 } : Room).slots) := by
  refine MetFree.of_bodySF (plainFor_of_name pn_4) hisR ?_
  intro p e s m args below meth c s₁ Bd hml0 hP hK
  obtain ⟨rfl, hZ, hh⟩ := hP
  have hnm := (name_of_methodNamed Bd.named Bd.method).1
  have C : own_C p s m c prog_172_method_2_code "com/example/isolith/isolith/history/WriteTable" Z 8 := ⟨Bd.exec, Bd.bytes, hZ, findClass_of_methodNamed Bd.named, hml0⟩
  have X0 : Stand p l e ({ frames := 2, cells := 1, slots := 8192, locals := 33 } : Room) s m #[(.ref a1), (.int op), (.int key), (.long u)] below meth c s₁ [] 0 0 := Stand.of_body Bd
  have e0 : s₁.heap = h0 := by rw [← hh, Bd.state]; rfl
  have N0 := Fr.nil n0
  show own_E p e below (own_R s below (Q4 Z a1 b tab op key u h0 n0) ({ frames := 2, cells := 1, slots := 8192, locals := 33 } : Room).cells ({ frames := 2, cells := 1, slots := 8192, locals := 33 } : Room).slots) s₁ (entryFrame m #[(.ref a1), (.int op), (.int key), (.long u)] 8)
  rw [ef_4]
  have B' := B
  obtain ⟨EX, FB, ar, f, cl, N, ga, FS, FF, A, S, hN1, hN2, hat, ht⟩ := B'
  obtain ⟨s1, s2, s3⟩ := own_sz hN2
  have hz : cl.slots.size.toInt32 = Int32.ofNat N := by rw [S, s3]
  refine own_lloadN C X0 d4_0 rfl rfl ?_
  refine own_lconst C X0 (0) d4_1 rfl rfl ?_
  by_cases u0 : 0 < u
  · refine own_lcmp C X0 d4_2 rfl ?_
    refine own_ifN C X0 d4_3 ((if0 _ _).trans (tlt ((lw_gt _ _).mpr u0)).2.2.2) rfl ?_
    refine own_lloadN C X0 d4_6 rfl rfl ?_
    refine own_aloadN C X0 d4_7 rfl rfl rfl ?_
    refine own_getF C X0 (hw _ (List.mem_of_getElem? (i := 21) rfl)) Via.refl e0 FB d4_8 rfl fun T1_ X1_ e1_ => ?_
    by_cases u1 : u < b
    · refine own_lcmp C X1_ d4_11 rfl ?_
      refine own_ifY (pc' := 17) C X1_ d4_12 ((if0 _ _).trans (tlt ((lw_lt _ _).mpr u1)).1) (by decide) (by decide) ?_
      refine own_lloadN C X1_ d4_17 rfl rfl ?_
      refine own_l2i C X1_ d4_18 rfl ?_
      refine own_istore (L' := #[_, _, _, _, _, _, _, _]) C X1_ d4_19 rfl rfl ?_
      refine own_iload C X1_ d4_21 rfl rfl ?_
      refine own_aloadN C X1_ d4_23 rfl rfl rfl ?_
      refine own_getF C X1_ (hw _ (List.mem_of_getElem? (i := 12) rfl)) Via.refl e1_ FS d4_24 rfl fun T2_ X2_ e2_ => ?_
      refine own_alen C X2_ e2_ A hz d4_27 rfl ?_
      have xi := own_i32 u0 u2
      have xc := own_ixC u0 u2
      have up : 0 < u.toInt := by rw [own_ltL, own_z64] at u0; exact u0
      have xn : (own_ix u : Int) = u.toInt := by simp only [own_ix]; omega
      by_cases u3 : u.toInt32 < Int32.ofNat N
      · refine own_icmpY (pc' := 49) C X2_ d4_28 (tlt u3).1 (by decide) (by decide) ?_
        exact own_add49 hw C X2_ Bd.returns Bd.notSynchronized e2_ EX FB FS FF A S hN1 hN2 hat ht g1 ga N0 u0 u1 u2 (by rw [own_lt, xi, s1] at u3; omega) (by decide) (by decide)
      · refine own_icmpN C X2_ d4_28 (flt u3).1 rfl ?_
        rw [own_lt, xi, s1] at u3
        obtain ⟨y1, y2⟩ := own_grow (x := u.toInt32) (by omega) (by omega)
        refine own_aloadN C X2_ d4_31 rfl rfl rfl ?_
        refine own_aloadN C X2_ d4_32 rfl rfl rfl ?_
        refine own_getF C X2_ (hw _ (List.mem_of_getElem? (i := 12) rfl)) Via.refl e2_ FS d4_33 rfl fun T3_ X3_ e3_ => ?_
        refine own_iload C X3_ d4_36 rfl rfl ?_
        refine own_callS C X3_ 2 [.int u.toInt32] (hw _ (List.mem_of_getElem? (i := 35) rfl)) (hw _ (List.mem_of_getElem? (i := 36) rfl)) (hw _ (List.mem_of_getElem? (i := 37) rfl)) (hw _ (List.mem_of_getElem? (i := 38) rfl)) (by decide) e3_ (rm6 l Z a0 hw [] u.toInt32 h0 n0 Z0 (by omega) (by omega)) rfl (by decide) (by decide) rfl (lenOf pd_I rfl) rfl (Nat.le_of_eq rfl) (by decide) (by decide) d4_38 rfl (fun _ _ _ q => q.1) fun T4_ L4_ X4_ Q4_ => ?_
        obtain ⟨-, N1q, H1⟩ := Q4_
        have N1 := Fr.app N0 N1q
        refine own_iconst C X4_ (1) d4_41 rfl rfl ?_
        refine own_ishl C X4_ d4_42 rfl ?_
        generalize own_hb u.toInt32 <<< ((1 : Int32) &&& 31) = nl at y1 y2
        rw [← H1] at EX FB FS FF A Z0
        refine own_callS C X4_ 1 [.ref ar, .int nl] (hw _ (List.mem_of_getElem? (i := 44) rfl)) (hw _ (List.mem_of_getElem? (i := 45) rfl)) (hw _ (List.mem_of_getElem? (i := 46) rfl)) (hw _ (List.mem_of_getElem? (i := 47) rfl)) (by decide) rfl (rm8 l Z a0 hw [] ar nl cl N tab T4_.heap n0 Z0 A S hN2 hat (by omega) y2 ht) rfl (by decide) (by decide) rfl (lenOf pd_AI rfl) rfl (Nat.le_of_eq rfl) (by decide) (by decide) d4_43 rfl (fun _ _ _ q => q.1) fun T5_ L5_ X5_ Q5_ => ?_
        obtain ⟨-, N2q, K2, c2, A2, S2, hat2⟩ := Q5_
        have N2 := Fr.app N1 N2q
        have EX2 := EX.keep K2
        have FB2 := FB.keep K2 nin0
        have FS2 := FS.keep K2 nin0
        have FF2 := FF.keep K2 nin0
        have nb : T4_.heap.size ≠ a1 := (own_ne EX.lt rfl).symm
        refine own_putF C X5_ (hw _ (List.mem_of_getElem? (i := 12) rfl)) Via.refl rfl FS2 EX2 (Or.inl (hw _ (List.mem_of_getElem? (i := 13) rfl))) (hw _ (List.mem_of_getElem? (i := 3) rfl)) (ty := .array .long) (by decide) rfl rfl d4_46 rfl fun T6_ h6_ X6_ e6_ W6_ F6_ E6_ => ?_
        have N3 := Fr.snoc X6_ N2 g1
        exact own_add49 hw C X6_ Bd.returns Bd.notSynchronized e6_ E6_ (FB2.other W6_ (Or.inr (slot_ne (t := .long) (t' := .array .long) (Or.inr (hw _ (List.mem_of_getElem? (i := 22) rfl))) (Or.inl (hw _ (List.mem_of_getElem? (i := 13) rfl))) (by decide) (by decide) (by decide)))) F6_ (FF2.other W6_ (Or.inr (slot_ne (t := .int) (t' := .array .long) (Or.inl (hw _ (List.mem_of_getElem? (i := 15) rfl))) (Or.inl (hw _ (List.mem_of_getElem? (i := 13) rfl))) (by decide) (by decide) (by decide)))) (A2.other W6_ nb) S2 (by omega) (by omega) hat2 (fun i hi => ht i (by omega)) g1 Z0 N3 u0 u1 u2 (by omega) (by decide) (by decide)
    · refine own_lcmp C X1_ d4_11 rfl ?_
      refine own_ifN C X1_ d4_12 ((if0 _ _).trans (flt (fun q => u1 ((lw_lt _ _).mp q))).1) rfl ?_
      have _q := u1
      refine own_iconst C X1_ (0) d4_15 rfl rfl ?_
      have ee := e1_
      subst ee
      exact own_retN C X1_ Bd.returns (by simp) Bd.notSynchronized (by decide) (by decide) d4_16 ⟨by rw [own_ar, if_neg (fun q => u1 q.2)] <;> rfl, N0, by rw [own_at, if_neg (fun q => u1 q.2.1)]; exact B⟩
  · refine own_lcmp C X0 d4_2 rfl ?_
    refine own_ifY (pc' := 15) C X0 d4_3 ((if0 _ _).trans (flt (fun q => u0 ((lw_gt _ _).mp q))).2.2.2) (by decide) (by decide) ?_
    refine own_iconst C X0 (0) d4_15 rfl rfl ?_
    have ee := e0
    subst ee
    exact own_retN C X0 Bd.returns (by simp) Bd.notSynchronized (by decide) (by decide) d4_16 ⟨by rw [own_ar, if_neg (fun q => u0 q.1)] <;> rfl, N0, by rw [own_at, if_neg (fun q => u0 q.1)]; exact B⟩
theorem d5_0 : decode prog_172_method_3_code 0 = .ok (.lload_n 2, 1) := by decide +kernel
theorem d5_1 : decode prog_172_method_3_code 1 = .ok (.lconst 0, 1) := by decide +kernel
theorem d5_2 : decode prog_172_method_3_code 2 = .ok (.lcmp, 1) := by decide +kernel
theorem d5_3 : decode prog_172_method_3_code 3 = .ok (.ifCond .le 14, 3) := by decide +kernel
theorem d5_6 : decode prog_172_method_3_code 6 = .ok (.lload_n 2, 1) := by decide +kernel
theorem d5_7 : decode prog_172_method_3_code 7 = .ok (.aload_n 0, 1) := by decide +kernel
theorem d5_8 : decode prog_172_method_3_code 8 = .ok (.getfield 9, 3) := by decide +kernel
theorem d5_11 : decode prog_172_method_3_code 11 = .ok (.arraylength, 1) := by decide +kernel
theorem d5_12 : decode prog_172_method_3_code 12 = .ok (.i2l, 1) := by decide +kernel
theorem d5_13 : decode prog_172_method_3_code 13 = .ok (.lcmp, 1) := by decide +kernel
theorem d5_14 : decode prog_172_method_3_code 14 = .ok (.ifCond .lt 5, 3) := by decide +kernel
theorem d5_17 : decode prog_172_method_3_code 17 = .ok (.iconst (-1), 1) := by decide +kernel
theorem d5_18 : decode prog_172_method_3_code 18 = .ok (.ireturn, 1) := by decide +kernel
theorem d5_19 : decode prog_172_method_3_code 19 = .ok (.aload_n 0, 1) := by decide +kernel
theorem d5_20 : decode prog_172_method_3_code 20 = .ok (.getfield 9, 3) := by decide +kernel
theorem d5_23 : decode prog_172_method_3_code 23 = .ok (.lload_n 2, 1) := by decide +kernel
theorem d5_24 : decode prog_172_method_3_code 24 = .ok (.l2i, 1) := by decide +kernel
theorem d5_25 : decode prog_172_method_3_code 25 = .ok (.laload, 1) := by decide +kernel
theorem d5_26 : decode prog_172_method_3_code 26 = .ok (.lstore 4, 2) := by decide +kernel
theorem d5_28 : decode prog_172_method_3_code 28 = .ok (.lload 4, 2) := by decide +kernel
theorem d5_30 : decode prog_172_method_3_code 30 = .ok (.lconst 0, 1) := by decide +kernel
theorem d5_31 : decode prog_172_method_3_code 31 = .ok (.lcmp, 1) := by decide +kernel
theorem d5_32 : decode prog_172_method_3_code 32 = .ok (.ifCond .eq 21, 3) := by decide +kernel
theorem d5_35 : decode prog_172_method_3_code 35 = .ok (.lload 4, 2) := by decide +kernel
theorem d5_37 : decode prog_172_method_3_code 37 = .ok (.bipush 32, 2) := by decide +kernel
theorem d5_39 : decode prog_172_method_3_code 39 = .ok (.lushr, 1) := by decide +kernel
theorem d5_40 : decode prog_172_method_3_code 40 = .ok (.l2i, 1) := by decide +kernel
theorem d5_41 : decode prog_172_method_3_code 41 = .ok (.iload_n 1, 1) := by decide +kernel
theorem d5_42 : decode prog_172_method_3_code 42 = .ok (.if_icmp .ne 11, 3) := by decide +kernel
theorem d5_45 : decode prog_172_method_3_code 45 = .ok (.lload 4, 2) := by decide +kernel
theorem d5_47 : decode prog_172_method_3_code 47 = .ok (.l2i, 1) := by decide +kernel
theorem d5_48 : decode prog_172_method_3_code 48 = .ok (.iconst 1, 1) := by decide +kernel
theorem d5_49 : decode prog_172_method_3_code 49 = .ok (.isub, 1) := by decide +kernel
theorem d5_50 : decode prog_172_method_3_code 50 = .ok (.goto 4, 3) := by decide +kernel
theorem d5_53 : decode prog_172_method_3_code 53 = .ok (.iconst (-1), 1) := by decide +kernel
theorem d5_54 : decode prog_172_method_3_code 54 = .ok (.ireturn, 1) := by decide +kernel
theorem pn_5 : plainName "com/example/isolith/isolith/history/WriteTable" = true := by first | (simp [plainName, overriddenIn]; done) | decide +kernel
def Q5 (Z : State) (a1 : Addr) (b : Int64) (tab : Nat → Int64) (key : Int32) (u : Int64) (h0 : Heap) (n0 : Nat) (v : Option Value) (h : Heap) (L : List Loc) : Prop := v = some (.int (own_find tab key u)) ∧ Fr n0 L ∧ h = h0
theorem ef_5 (m : MethodId) (a1 : Addr) (key : Int32) (u : Int64) : entryFrame m #[(.ref a1), (.int key), (.long u)] 6 = mkF m 0 #[.val (.ref a1), .val (.int key), .val (.long u), .second, .unset, .unset] [] := by first | (simp [entryFrame, mkF, argsToLocals, Value.category]; done) | rfl
set_option maxRecDepth 65536 in
set_option maxHeartbeats 40000000 in
theorem rm5 (l : Launch) (Z : State) (a0 : Array Value) (hw : ∀ d ∈ tables_1, d.before a0 Z = true) (ws : List Jvm.Cond) (a1 : Addr) (b : Int64) (tab : Nat → Int64) (key : Int32) (u : Int64) (h0 : Heap) (n0 : Nat) (Z0 : n0 ≤ h0.size) (B : own_Tb Z h0 a1 n0 b tab) :
    MetFree l (⟨"com/example/isolith/isolith/history/WriteTable", "find", "(IJ)I"⟩ : MethodName) (head1 (Jvm.Cond.code (⟨"com/example/isolith/isolith/history/WriteTable", "find", "(IJ)I"⟩ : MethodName) prog_172_method_3_code 6 (some .int) :: ws) ({ frames := 0, cells := 0, slots := 0, locals := 0 } : Room)) (fun a U => a = #[(.ref a1), (.int key), (.long u)] ∧ Z.Warmed39 U.vm ∧ U.heap = h0) (fun _ _ _ _ _ => True) (fun _ U o U' => ∃ v L, o = .returned v ∧ Q5 Z a1 b tab key u h0 n0 v U'.heap L ∧ FrameEnd U o U' L ({ frames := 0, cells := 0, slots := 0, locals := 0 } : Room).cells ({ frames := 0, cells := 0, slots := 0, locals := 0 } : Room).slots) := by
  refine MetFree.of_bodySF (plainFor_of_name pn_5) hisR ?_
  intro p e s m args below meth c s₁ Bd hml0 hP hK
  obtain ⟨rfl, hZ, hh⟩ := hP
  have hnm := (name_of_methodNamed Bd.named Bd.method).1
  have C : own_C p s m c prog_172_method_3_code "com/example/isolith/isolith/history/WriteTable" Z 6 := ⟨Bd.exec, Bd.bytes, hZ, findClass_of_methodNamed Bd.named, hml0⟩
  have X0 : Stand p l e ({ frames := 0, cells := 0, slots := 0, locals := 0 } : Room) s m #[(.ref a1), (.int key), (.long u)] below meth c s₁ [] 0 0 := Stand.of_body Bd
  have e0 : s₁.heap = h0 := by rw [← hh, Bd.state]; rfl
  have N0 := Fr.nil n0
  show own_E p e below (own_R s below (Q5 Z a1 b tab key u h0 n0) ({ frames := 0, cells := 0, slots := 0, locals := 0 } : Room).cells ({ frames := 0, cells := 0, slots := 0, locals := 0 } : Room).slots) s₁ (entryFrame m #[(.ref a1), (.int key), (.long u)] 6)
  rw [ef_5]
  obtain ⟨EX, FB, ar, f, cl, N, ga, FS, FF, A, S, hN1, hN2, hat, ht⟩ := B
  obtain ⟨s1, s2, s3⟩ := own_sz hN2
  have hz : cl.slots.size.toInt32 = Int32.ofNat N := by rw [S, s3]
  refine own_lloadN C X0 d5_0 rfl rfl ?_
  refine own_lconst C X0 (0) d5_1 rfl rfl ?_
  by_cases u0 : 0 < u
  · refine own_lcmp C X0 d5_2 rfl ?_
    refine own_ifN C X0 d5_3 ((if0 _ _).trans (tlt ((lw_gt _ _).mpr u0)).2.2.2) rfl ?_
    have up : 0 < u.toInt := by rw [own_ltL, own_z64] at u0; exact u0
    have xn : (own_ix u : Int) = u.toInt := by simp only [own_ix]; omega
    refine own_lloadN C X0 d5_6 rfl rfl ?_
    refine own_aloadN C X0 d5_7 rfl rfl rfl ?_
    refine own_getF C X0 (hw _ (List.mem_of_getElem? (i := 12) rfl)) Via.refl e0 FS d5_8 rfl fun T1_ X1_ e1_ => ?_
    refine own_alen C X1_ e1_ A hz d5_11 rfl ?_
    refine own_i2l C X1_ d5_12 rfl ?_
    have sl : (Int32.ofNat N).toInt64.toInt = N := by rw [Jvm.Kit.i64_of_i32, s1]
    by_cases u1 : u < (Int32.ofNat N).toInt64
    · refine own_lcmp C X1_ d5_13 rfl ?_
      refine own_ifY (pc' := 19) C X1_ d5_14 ((if0 _ _).trans (tlt ((lw_lt _ _).mpr u1)).1) (by decide) (by decide) ?_
      rw [own_ltL, sl] at u1
      have u2 : u.toInt ≤ 8191 := by omega
      have xi := own_i32 u0 u2
      have xc := own_ixC u0 u2
      have hi : own_ix u < N := by omega
      have hj : ¬ (u.toInt32 < 0 ∨ cl.slots.size ≤ u.toInt32.toNatClampNeg) := by rw [xc, S, own_lt, xi]; show ¬ (u.toInt < 0 ∨ _); omega
      have hv : cl.slots[u.toInt32.toNatClampNeg]? = some (.long (tab (own_ix u))) := by rw [xc]; exact hat _ hi
      refine own_aloadN C X1_ d5_19 rfl rfl rfl ?_
      refine own_getF C X1_ (hw _ (List.mem_of_getElem? (i := 12) rfl)) Via.refl e1_ FS d5_20 rfl fun T2_ X2_ e2_ => ?_
      refine own_lloadN C X2_ d5_23 rfl rfl ?_
      refine own_l2i C X2_ d5_24 rfl ?_
      refine own_laload C X2_ e2_ A hj hv d5_25 rfl ?_
      refine own_lstore (L' := #[_, _, _, _, _, _]) C X2_ d5_26 rfl rfl ?_
      refine own_lload C X2_ d5_28 rfl rfl ?_
      refine own_lconst C X2_ (0) d5_30 rfl rfl ?_
      by_cases t0 : tab (own_ix u) = 0
      · refine own_lcmp C X2_ d5_31 rfl ?_
        refine own_ifY (pc' := 53) C X2_ d5_32 ((if0 _ _).trans (teq ((lw_eq _ _).mpr t0)).1) (by decide) (by decide) ?_
        refine own_iconst C X2_ (-1) d5_53 rfl rfl ?_
        have ee := e2_
        exact own_retI C X2_ Bd.returns Bd.notSynchronized (by decide) (by decide) d5_54 ⟨by rw [own_find, if_neg (fun q => q.2.1 t0)], N0, ee⟩
      · refine own_lcmp C X2_ d5_31 rfl ?_
        refine own_ifN C X2_ d5_32 ((if0 _ _).trans (feq (fun q => t0 ((lw_eq _ _).mp q))).1) rfl ?_
        refine own_lload C X2_ d5_35 rfl rfl ?_
        refine own_bipush C X2_ (32) d5_37 rfl rfl ?_
        refine own_lushr C X2_ d5_39 rfl ?_
        refine own_l2i C X2_ d5_40 rfl ?_
        refine own_iloadN C X2_ d5_41 rfl rfl ?_
        by_cases t1 : own_hi (tab (own_ix u)) = key
        · refine own_icmpN C X2_ d5_42 (teq t1).2 rfl ?_
          refine own_lload C X2_ d5_45 rfl rfl ?_
          refine own_l2i C X2_ d5_47 rfl ?_
          refine own_iconst C X2_ (1) d5_48 rfl rfl ?_
          refine own_isub C X2_ d5_49 rfl ?_
          refine own_goto (pc' := 54) C X2_ d5_50 (by decide) (by decide) ?_
          have ee := e2_
          exact own_retI C X2_ Bd.returns Bd.notSynchronized (by decide) (by decide) d5_54 ⟨by rw [own_find, if_pos ⟨u0, t0, t1⟩], N0, ee⟩
        · refine own_icmpY (pc' := 53) C X2_ d5_42 (feq t1).2 (by decide) (by decide) ?_
          refine own_iconst C X2_ (-1) d5_53 rfl rfl ?_
          have ee := e2_
          exact own_retI C X2_ Bd.returns Bd.notSynchronized (by decide) (by decide) d5_54 ⟨by rw [own_find, if_neg (fun q => t1 q.2.2)], N0, ee⟩
    · refine own_lcmp C X1_ d5_13 rfl ?_
      refine own_ifN C X1_ d5_14 ((if0 _ _).trans (flt (fun q => u1 ((lw_lt _ _).mp q))).1) rfl ?_
      refine own_iconst C X1_ (-1) d5_17 rfl rfl ?_
      rw [own_ltL, sl] at u1
      have ee := e1_
      exact own_retI C X1_ Bd.returns Bd.notSynchronized (by decide) (by decide) d5_18 ⟨by rw [own_find, if_neg (fun q => q.2.1 (ht _ (by omega)))], N0, ee⟩
  · refine own_lcmp C X0 d5_2 rfl ?_
    refine own_ifY (pc' := 17) C X0 d5_3 ((if0 _ _).trans (flt (fun q => u0 ((lw_gt _ _).mp q))).2.2.2) (by decide) (by decide) ?_
    refine own_iconst C X0 (-1) d5_17 rfl rfl ?_
    exact own_retI C X0 Bd.returns Bd.notSynchronized (by decide) (by decide) d5_18 ⟨by rw [own_find, if_neg (fun q => u0 q.1)], N0, e0⟩
theorem own_neg {w : Int64} (h1 : -8191 ≤ w.toInt) (h2 : w.toInt ≤ 8191) : -8191 ≤ (-w).toInt ∧ (-w).toInt ≤ 8191 := by
  have : (-w).toInt = -w.toInt := Jvm.Kit.i64_neg (by omega)
  omega
theorem own_m13 (x : Int64) : -8191 ≤ (x &&& 8191).toInt ∧ (x &&& 8191).toInt ≤ 8191 := by
  have h : (x &&& 8191).toInt = x.toInt % 2 ^ 13 := Jvm.Kit.i64_mask x 8191 (k := 13) (by decide) (by decide)
  omega
theorem own_m30 (x : Int32) : 0 ≤ (x &&& 1073741823).toInt ∧ (x &&& 1073741823).toInt ≤ 1073741823 := by
  have h : (x &&& 1073741823).toInt = x.toInt % 2 ^ 30 := Jvm.Kit.i32_mask x 1073741823 (k := 30) (by decide) (by decide)
  omega
theorem own_op1 {op : Int32} (h0 : 0 ≤ op.toInt) (h1 : op.toInt ≤ 1073741823) : (op + 1).toInt = op.toInt + 1 := Jvm.Kit.i32_add (by show _ ≤ op.toInt + 1; omega) (by show op.toInt + 1 < _; omega)
theorem own_slotB (key op : Int32) : (own_slot key op).toBitVec = (key.toBitVec.signExtend 64) <<< 32 ||| (op + 1).toBitVec.signExtend 64 := by
  rfl
theorem own_bvHi (k o : BitVec 32) (ho : o.msb = false) : ((k.signExtend 64 <<< 32 ||| o.signExtend 64) >>> 32).signExtend 32 = k := by
  apply BitVec.eq_of_getLsbD_eq
  intro i hi
  have a1 : ¬ (32 + i < 32) := by omega
  have a2 : 32 + i < 64 := by omega
  have a3 : 32 + i - 32 = i := by omega
  have a4 : i < 64 := by omega
  have a5 : ¬ 64 ≤ 32 := by omega
  simp [BitVec.getLsbD_ushiftRight, BitVec.getLsbD_or, BitVec.getLsbD_shiftLeft, BitVec.getLsbD_signExtend, BitVec.getElem_signExtend, hi, a1, a2, a3, a4, ho]
theorem own_bvLo (k o : BitVec 32) : (k.signExtend 64 <<< 32 ||| o.signExtend 64).signExtend 32 = o := by
  apply BitVec.eq_of_getLsbD_eq
  intro i hi
  have a4 : i < 64 := by omega
  simp [BitVec.getLsbD_or, BitVec.getLsbD_shiftLeft, BitVec.getLsbD_signExtend, BitVec.getElem_signExtend, hi, a4]
theorem own_slotHi (key op : Int32) (h0 : 0 ≤ op.toInt) (h1 : op.toInt ≤ 1073741823) : own_hi (own_slot key op) = key := by
  apply Int32.toBitVec_inj.mp
  have hm : (op + 1).toBitVec.msb = false := by
    rw [BitVec.msb_eq_toInt]
    have e : (op + 1).toBitVec.toInt = op.toInt + 1 := own_op1 h0 h1
    rw [e]
    simp
    omega
  have hb : (own_hi (own_slot key op)).toBitVec = ((own_slot key op).toBitVec >>> 32).signExtend 32 := rfl
  rw [hb, own_slotB]
  exact own_bvHi _ _ hm
theorem own_slotLo (key op : Int32) (h0 : 0 ≤ op.toInt) (h1 : op.toInt ≤ 1073741823) : (own_slot key op).toInt32 - 1 = op := by
  have e : (own_slot key op).toInt32 = op + 1 := by
    apply Int32.toBitVec_inj.mp
    show (own_slot key op).toBitVec.signExtend 32 = _
    rw [own_slotB]
    exact own_bvLo _ _
  rw [e, Int32.add_sub_cancel]
theorem own_slotNz (key op : Int32) (h0 : 0 ≤ op.toInt) (h1 : op.toInt ≤ 1073741823) : own_slot key op ≠ 0 := fun q => by
  have l := own_slotLo key op h0 h1
  rw [q] at l
  rw [← l] at h0
  exact absurd h0 (by decide)
theorem own_ixI {x y : Int64} (hx : 0 < x) (hy : 0 < y) (h : own_ix x = own_ix y) : x = y := by
  rw [own_ltL, own_z64] at hx hy
  apply Int64.toInt_inj.mp
  simp only [own_ix] at h
  omega
theorem own_e1 (b : Int64) (k1 : Int32) (w1 : Int64) : own_ar b (fun _ => 0) k1 w1 = own_bb (0 < w1 ∧ w1 < b) := by
  unfold own_ar own_bb
  split
  · rw [if_pos rfl]
  · rfl
theorem own_e2 (b : Int64) (k1 k2 op1 : Int32) (w1 w2 : Int64) (h0 : 0 ≤ op1.toInt) (h1 : op1.toInt ≤ 1073741823) : own_ar b (own_at b (fun _ => 0) op1 k1 w1) k2 w2 = own_bb ((0 < w2 ∧ w2 < b) ∧ (¬ ((0 < w1 ∧ w1 < b) ∧ w2 = w1) ∨ k2 = k1)) := by
  unfold own_ar own_bb
  by_cases c2 : 0 < w2 ∧ w2 < b
  · rw [if_pos c2]
    by_cases c1 : 0 < w1 ∧ w1 < b
    · have t : own_at b (fun _ => 0) op1 k1 w1 = fun i => if i = own_ix w1 then own_slot k1 op1 else 0 := by rw [own_at, if_pos ⟨c1.1, c1.2, rfl⟩]
      rw [t]
      by_cases c3 : w2 = w1
      · subst c3
        show (if (if own_ix w2 = own_ix w2 then own_slot k1 op1 else 0) = 0 then 1 else if own_hi (if own_ix w2 = own_ix w2 then own_slot k1 op1 else 0) = k2 then 1 else 0) = _
        rw [if_pos rfl, if_neg (own_slotNz k1 op1 h0 h1), own_slotHi k1 op1 h0 h1]
        by_cases c4 : k2 = k1
        · rw [if_pos c4.symm, if_pos ⟨c2, Or.inr c4⟩]
        · rw [if_neg (fun q => c4 q.symm), if_neg (fun q => q.2.elim (fun r => r ⟨c1, rfl⟩) c4)]
      · show (if (if own_ix w2 = own_ix w1 then own_slot k1 op1 else 0) = 0 then 1 else _) = _
        rw [if_neg (fun q => c3 (own_ixI c2.1 c1.1 q)), if_pos rfl, if_pos ⟨c2, Or.inl (fun q => c3 q.2)⟩]
    · have t : own_at b (fun _ => 0) op1 k1 w1 = fun _ => 0 := by rw [own_at, if_neg (fun q => c1 ⟨q.1, q.2.1⟩)]
      rw [t, if_pos rfl, if_pos ⟨c2, Or.inl (fun q => c1 q.1)⟩]
  · rw [if_neg c2, if_neg (fun q => c2 q.1)]
def own_ex (b : Int64) (k1 k2 op1 op2 : Int32) (w1 w2 : Int64) (qk : Int32) (qv : Int64) : Int32 := if (0 < w1 ∧ w1 < b) ∧ qv = w1 ∧ qk = k1 then op1 else if ((0 < w2 ∧ w2 < b) ∧ ¬ ((0 < w1 ∧ w1 < b) ∧ w2 = w1)) ∧ qv = w2 ∧ qk = k2 then op2 else -1
theorem own_fH {tab : Nat → Int64} {u : Int64} {k key op : Int32} (h : tab (own_ix u) = own_slot key op) (u0 : 0 < u) (h0 : 0 ≤ op.toInt) (h1 : op.toInt ≤ 1073741823) : own_find tab k u = if k = key then op else -1 := by
  rw [own_find, h, own_slotHi key op h0 h1, own_slotLo key op h0 h1]
  by_cases q : k = key
  · rw [if_pos ⟨u0, own_slotNz key op h0 h1, q.symm⟩, if_pos q]
  · rw [if_neg (fun z => q z.2.2.symm), if_neg q]
theorem own_fZ {tab : Nat → Int64} {u : Int64} {k : Int32} (h : tab (own_ix u) = 0) : own_find tab k u = -1 := by
  rw [own_find, if_neg (fun z => z.2.1 h)]
theorem own_fN {tab : Nat → Int64} {u : Int64} {k : Int32} (h : ¬ 0 < u) : own_find tab k u = -1 := by
  rw [own_find, if_neg (fun z => h z.1)]
theorem own_e3 (b : Int64) (k1 k2 op1 op2 : Int32) (w1 w2 : Int64) (qk : Int32) (qv : Int64) (h0 : 0 ≤ op1.toInt) (h1 : op1.toInt ≤ 1073741823) (h2 : 0 ≤ op2.toInt) (h3 : op2.toInt ≤ 1073741823) : own_find (own_at b (own_at b (fun _ => 0) op1 k1 w1) op2 k2 w2) qk qv = own_ex b k1 k2 op1 op2 w1 w2 qk qv := by
  have T1 := fun i => own_atP b (fun _ => 0) op1 k1 w1 i
  have T2 := fun i => own_atP b (own_at b (fun _ => 0) op1 k1 w1) op2 k2 w2 i
  generalize own_at b (fun _ => 0) op1 k1 w1 = t1 at T1 T2
  generalize own_at b t1 op2 k2 w2 = t2 at T2
  have S1 : ∀ i, (0 < w1 ∧ w1 < b) → i = own_ix w1 → t1 i = own_slot k1 op1 := fun i a q => by rw [T1, if_pos ⟨⟨a.1, a.2, rfl⟩, q⟩]
  have S0 : ∀ i, ¬ ((0 < w1 ∧ w1 < b) ∧ i = own_ix w1) → t1 i = 0 := fun i a => by rw [T1, if_neg (fun z => a ⟨⟨z.1.1, z.1.2.1⟩, z.2⟩)]
  unfold own_ex
  by_cases q0 : 0 < qv
  · by_cases a : (0 < w1 ∧ w1 < b) ∧ qv = w1
    · obtain ⟨a1, rfl⟩ := a
      have e1 : t1 (own_ix qv) = own_slot k1 op1 := S1 _ a1 rfl
      have e2 : t2 (own_ix qv) = own_slot k1 op1 := by
        rw [T2, if_neg (fun z => ?_), e1]
        have := own_ixI q0 z.1.1 z.2
        rw [← this, e1] at z
        exact own_slotNz k1 op1 h0 h1 z.1.2.2
      rw [own_fH e2 q0 h0 h1]
      by_cases r : qk = k1
      · rw [if_pos r, if_pos ⟨a1, rfl, r⟩]
      · rw [if_neg r, if_neg (fun z => r z.2.2), if_neg (fun z => z.1.2 ⟨a1, z.2.1.symm⟩)]
    · have e1 : t1 (own_ix qv) = 0 := S0 _ (fun z => a ⟨z.1, own_ixI q0 z.1.1 z.2⟩)
      rw [if_neg (fun (z : (0 < w1 ∧ w1 < b) ∧ qv = w1 ∧ qk = k1) => a ⟨z.1, z.2.1⟩)]
      by_cases d : ((0 < w2 ∧ w2 < b) ∧ ¬ ((0 < w1 ∧ w1 < b) ∧ w2 = w1)) ∧ qv = w2
      · obtain ⟨d1, rfl⟩ := d
        have e2 : t2 (own_ix qv) = own_slot k2 op2 := by rw [T2, if_pos ⟨⟨d1.1.1, d1.1.2, e1⟩, rfl⟩]
        rw [own_fH e2 q0 h2 h3]
        by_cases r : qk = k2
        · rw [if_pos r, if_pos ⟨d1, rfl, r⟩]
        · rw [if_neg r, if_neg (fun z => r z.2.2)]
      · have e2 : t2 (own_ix qv) = 0 := by
          rw [T2, if_neg (fun z => ?_), e1]
          have g := own_ixI q0 z.1.1 z.2
          refine d ⟨⟨⟨z.1.1, z.1.2.1⟩, fun y => ?_⟩, g⟩
          exact own_slotNz k1 op1 h0 h1 ((S1 (own_ix w2) y.1 (by rw [y.2])).symm.trans z.1.2.2)
        rw [own_fZ e2, if_neg (fun z => d ⟨z.1, z.2.1⟩)]
  · rw [own_fN q0, if_neg (fun (z : (0 < w1 ∧ w1 < b) ∧ qv = w1 ∧ qk = k1) => q0 (by rw [z.2.1]; exact z.1.1)), if_neg (fun (z : ((0 < w2 ∧ w2 < b) ∧ ¬ ((0 < w1 ∧ w1 < b) ∧ w2 = w1)) ∧ qv = w2 ∧ qk = k2) => q0 (by rw [z.2.1]; exact z.1.1.1))]
-- SEGMENTS
set_option maxRecDepth 65536 in
set_option maxHeartbeats 40000000 in
theorem own_s1 {p : Program} {l : Launch} {e : Env} {R : Room} {s : State} {m : MethodId} {args : Array Value} {below : List Frame} {meth : Method} {c : Code} {T : State} {locs : List Loc} {cells slots : Nat} {Z : State} {a0 : Array Value} (hw : ∀ d ∈ tables_1, d.before a0 Z = true) {P : State → Outcome → Prop} {q0 : Int64} {q2 : Int64} {q4 : Int64} {i6 : Int32} {i7 : Int32} {i8 : Int32} (C : own_C p s m c code "com/example/isolith/isolith/history/WriteTableFindPinLaw" Z 35) (X0 : Stand p l e R s m args below meth c T locs cells slots) (K : ∀ b : Int64, own_E p e below P T (mkF m 18 #[.val (.long q0), .second, .val (.long q2), .second, .val (.long q4), .second, .val (.int i6), .val (.int i7), .val (.int i8), .val (.long b), .second, .unset, .unset, .unset, .unset, .unset, .unset, .unset, .unset, .unset, .unset, .unset, .unset, .unset, .unset, .unset, .unset, .unset, .unset, .unset, .unset, .unset, .unset, .unset, .unset] [])) : own_E p e below P T (mkF m 0 #[.val (.long q0), .second, .val (.long q2), .second, .val (.long q4), .second, .val (.int i6), .val (.int i7), .val (.int i8), .unset, .unset, .unset, .unset, .unset, .unset, .unset, .unset, .unset, .unset, .unset, .unset, .unset, .unset, .unset, .unset, .unset, .unset, .unset, .unset, .unset, .unset, .unset, .unset, .unset, .unset] []) := by
  refine own_iload C X0 at_0 rfl rfl ?_
  refine own_iconst C X0 (4) at_2 rfl rfl ?_
  refine own_iand C X0 at_3 rfl ?_
  by_cases c : i8 &&& 4 = 0
  · refine own_ifY (pc' := 11) C X0 at_4 ((if0 _ _).trans (teq c).1) (by decide) (by decide) ?_
    refine own_lloadN C X0 at_11 rfl rfl ?_
    refine own_ldcJ C X0 (hw _ (List.mem_of_getElem? (i := 0) rfl)) at_12 rfl ?_
    refine own_land C X0 at_15 rfl ?_
    refine own_lstore (L' := #[_, _, _, _, _, _, _, _, _, _, _, _, _, _, _, _, _, _, _, _, _, _, _, _, _, _, _, _, _, _, _, _, _, _, _]) C X0 at_16 rfl rfl ?_
    exact K _
  · refine own_ifN C X0 at_4 ((if0 _ _).trans (feq c).1) rfl ?_
    refine own_lloadN C X0 at_7 rfl rfl ?_
    refine own_goto (pc' := 16) C X0 at_8 (by decide) (by decide) ?_
    refine own_lstore (L' := #[_, _, _, _, _, _, _, _, _, _, _, _, _, _, _, _, _, _, _, _, _, _, _, _, _, _, _, _, _, _, _, _, _, _, _]) C X0 at_16 rfl rfl ?_
    exact K _
set_option maxRecDepth 65536 in
set_option maxHeartbeats 40000000 in
theorem own_s2 {p : Program} {l : Launch} {e : Env} {R : Room} {s : State} {m : MethodId} {args : Array Value} {below : List Frame} {meth : Method} {c : Code} {T : State} {locs : List Loc} {cells slots : Nat} {Z : State} {a0 : Array Value} (hw : ∀ d ∈ tables_1, d.before a0 Z = true) {P : State → Outcome → Prop} {q0 : Int64} {q2 : Int64} {q4 : Int64} {i6 : Int32} {i7 : Int32} {i8 : Int32} {b : Int64} (C : own_C p s m c code "com/example/isolith/isolith/history/WriteTableFindPinLaw" Z 35) (X0 : Stand p l e R s m args below meth c T locs cells slots) (K : ∀ w1 : Int64, -8191 ≤ w1.toInt → w1.toInt ≤ 8191 → own_E p e below P T (mkF m 37 #[.val (.long q0), .second, .val (.long q2), .second, .val (.long q4), .second, .val (.int i6), .val (.int i7), .val (.int i8), .val (.long b), .second, .val (.long w1), .second, .unset, .unset, .unset, .unset, .unset, .unset, .unset, .unset, .unset, .unset, .unset, .unset, .unset, .unset, .unset, .unset, .unset, .unset, .unset, .unset, .unset, .unset] [])) : own_E p e below P T (mkF m 18 #[.val (.long q0), .second, .val (.long q2), .second, .val (.long q4), .second, .val (.int i6), .val (.int i7), .val (.int i8), .val (.long b), .second, .unset, .unset, .unset, .unset, .unset, .unset, .unset, .unset, .unset, .unset, .unset, .unset, .unset, .unset, .unset, .unset, .unset, .unset, .unset, .unset, .unset, .unset, .unset, .unset] []) := by
  have hm := own_m13 q2
  refine own_lloadN C X0 at_18 rfl rfl ?_
  refine own_ldcJ C X0 (hw _ (List.mem_of_getElem? (i := 0) rfl)) at_19 rfl ?_
  refine own_land C X0 at_22 rfl ?_
  refine own_lstore (L' := #[_, _, _, _, _, _, _, _, _, _, _, _, _, _, _, _, _, _, _, _, _, _, _, _, _, _, _, _, _, _, _, _, _, _, _]) C X0 at_23 rfl rfl ?_
  generalize (q2 &&& 8191) = w at *
  refine own_iload C X0 at_25 rfl rfl ?_
  refine own_iconst C X0 (3) at_27 rfl rfl ?_
  refine own_iand C X0 at_28 rfl ?_
  by_cases c : i8 &&& 3 = 0
  · refine own_ifN C X0 at_29 ((if0 _ _).trans (teq c).2) rfl ?_
    refine own_lload C X0 at_32 rfl rfl ?_
    refine own_lneg C X0 at_34 rfl ?_
    refine own_lstore (L' := #[_, _, _, _, _, _, _, _, _, _, _, _, _, _, _, _, _, _, _, _, _, _, _, _, _, _, _, _, _, _, _, _, _, _, _]) C X0 at_35 rfl rfl ?_
    exact K _ (own_neg hm.1 hm.2).1 (own_neg hm.1 hm.2).2
  · refine own_ifY (pc' := 37) C X0 at_29 ((if0 _ _).trans (feq c).2) (by decide) (by decide) ?_
    exact K _ hm.1 hm.2
set_option maxRecDepth 65536 in
set_option maxHeartbeats 40000000 in
theorem own_s3 {p : Program} {l : Launch} {e : Env} {R : Room} {s : State} {m : MethodId} {args : Array Value} {below : List Frame} {meth : Method} {c : Code} {T : State} {locs : List Loc} {cells slots : Nat} {Z : State} {a0 : Array Value} (hw : ∀ d ∈ tables_1, d.before a0 Z = true) {P : State → Outcome → Prop} {q0 : Int64} {q2 : Int64} {q4 : Int64} {i6 : Int32} {i7 : Int32} {i8 : Int32} {b : Int64} {w1 : Int64} (C : own_C p s m c code "com/example/isolith/isolith/history/WriteTableFindPinLaw" Z 35) (X0 : Stand p l e R s m args below meth c T locs cells slots) (h1 : -8191 ≤ w1.toInt) (h2 : w1.toInt ≤ 8191) (K : ∀ w2 : Int64, -8191 ≤ w2.toInt → w2.toInt ≤ 8191 → own_E p e below P T (mkF m 58 #[.val (.long q0), .second, .val (.long q2), .second, .val (.long q4), .second, .val (.int i6), .val (.int i7), .val (.int i8), .val (.long b), .second, .val (.long w1), .second, .val (.long w2), .second, .unset, .unset, .unset, .unset, .unset, .unset, .unset, .unset, .unset, .unset, .unset, .unset, .unset, .unset, .unset, .unset, .unset, .unset, .unset, .unset] [])) : own_E p e below P T (mkF m 37 #[.val (.long q0), .second, .val (.long q2), .second, .val (.long q4), .second, .val (.int i6), .val (.int i7), .val (.int i8), .val (.long b), .second, .val (.long w1), .second, .unset, .unset, .unset, .unset, .unset, .unset, .unset, .unset, .unset, .unset, .unset, .unset, .unset, .unset, .unset, .unset, .unset, .unset, .unset, .unset, .unset, .unset] []) := by
  refine own_iload C X0 at_37 rfl rfl ?_
  refine own_bipush C X0 (16) at_39 rfl rfl ?_
  refine own_iand C X0 at_41 rfl ?_
  by_cases c : i8 &&& 16 = 0
  · refine own_ifY (pc' := 50) C X0 at_42 ((if0 _ _).trans (teq c).1) (by decide) (by decide) ?_
    refine own_lload C X0 at_50 rfl rfl ?_
    refine own_ldcJ C X0 (hw _ (List.mem_of_getElem? (i := 0) rfl)) at_52 rfl ?_
    refine own_land C X0 at_55 rfl ?_
    refine own_lstore (L' := #[_, _, _, _, _, _, _, _, _, _, _, _, _, _, _, _, _, _, _, _, _, _, _, _, _, _, _, _, _, _, _, _, _, _, _]) C X0 at_56 rfl rfl ?_
    exact K _ (own_m13 q4).1 (own_m13 q4).2
  · refine own_ifN C X0 at_42 ((if0 _ _).trans (feq c).1) rfl ?_
    refine own_lload C X0 at_45 rfl rfl ?_
    refine own_goto (pc' := 56) C X0 at_47 (by decide) (by decide) ?_
    refine own_lstore (L' := #[_, _, _, _, _, _, _, _, _, _, _, _, _, _, _, _, _, _, _, _, _, _, _, _, _, _, _, _, _, _, _, _, _, _, _]) C X0 at_56 rfl rfl ?_
    exact K _ h1 h2
set_option maxRecDepth 65536 in
set_option maxHeartbeats 40000000 in
theorem own_s4 {p : Program} {l : Launch} {e : Env} {R : Room} {s : State} {m : MethodId} {args : Array Value} {below : List Frame} {meth : Method} {c : Code} {T : State} {locs : List Loc} {cells slots : Nat} {Z : State} {a0 : Array Value} (hw : ∀ d ∈ tables_1, d.before a0 Z = true) {P : State → Outcome → Prop} {q0 : Int64} {q2 : Int64} {q4 : Int64} {i6 : Int32} {i7 : Int32} {i8 : Int32} {b : Int64} {w1 : Int64} {w2 : Int64} (C : own_C p s m c code "com/example/isolith/isolith/history/WriteTableFindPinLaw" Z 35) (X0 : Stand p l e R s m args below meth c T locs cells slots) (h1 : -8191 ≤ w2.toInt) (h2 : w2.toInt ≤ 8191) (K : ∀ w2 : Int64, -8191 ≤ w2.toInt → w2.toInt ≤ 8191 → own_E p e below P T (mkF m 73 #[.val (.long q0), .second, .val (.long q2), .second, .val (.long q4), .second, .val (.int i6), .val (.int i7), .val (.int i8), .val (.long b), .second, .val (.long w1), .second, .val (.long w2), .second, .unset, .unset, .unset, .unset, .unset, .unset, .unset, .unset, .unset, .unset, .unset, .unset, .unset, .unset, .unset, .unset, .unset, .unset, .unset, .unset] [])) : own_E p e below P T (mkF m 58 #[.val (.long q0), .second, .val (.long q2), .second, .val (.long q4), .second, .val (.int i6), .val (.int i7), .val (.int i8), .val (.long b), .second, .val (.long w1), .second, .val (.long w2), .second, .unset, .unset, .unset, .unset, .unset, .unset, .unset, .unset, .unset, .unset, .unset, .unset, .unset, .unset, .unset, .unset, .unset, .unset, .unset, .unset] []) := by
  refine own_iload C X0 at_58 rfl rfl ?_
  refine own_bipush C X0 (8) at_60 rfl rfl ?_
  refine own_iushr C X0 at_62 rfl ?_
  refine own_iconst C X0 (3) at_63 rfl rfl ?_
  refine own_iand C X0 at_64 rfl ?_
  generalize ((i8.toUInt32 >>> ((8 : Int32) &&& 31).toUInt32).toInt32 &&& 3) = z
  by_cases c : z = 0
  · refine own_ifN C X0 at_65 ((if0 _ _).trans (teq c).2) rfl ?_
    refine own_lload C X0 at_68 rfl rfl ?_
    refine own_lneg C X0 at_70 rfl ?_
    refine own_lstore (L' := #[_, _, _, _, _, _, _, _, _, _, _, _, _, _, _, _, _, _, _, _, _, _, _, _, _, _, _, _, _, _, _, _, _, _, _]) C X0 at_71 rfl rfl ?_
    exact K _ (own_neg h1 h2).1 (own_neg h1 h2).2
  · refine own_ifY (pc' := 73) C X0 at_65 ((if0 _ _).trans (feq c).2) (by decide) (by decide) ?_
    exact K _ h1 h2
set_option maxRecDepth 65536 in
set_option maxHeartbeats 40000000 in
theorem own_s5 {p : Program} {l : Launch} {e : Env} {R : Room} {s : State} {m : MethodId} {args : Array Value} {below : List Frame} {meth : Method} {c : Code} {T : State} {locs : List Loc} {cells slots : Nat} {Z : State} {a0 : Array Value} (hw : ∀ d ∈ tables_1, d.before a0 Z = true) {P : State → Outcome → Prop} {q0 : Int64} {q2 : Int64} {q4 : Int64} {i6 : Int32} {i7 : Int32} {i8 : Int32} {b : Int64} {w1 : Int64} {w2 : Int64} (C : own_C p s m c code "com/example/isolith/isolith/history/WriteTableFindPinLaw" Z 35) (X0 : Stand p l e R s m args below meth c T locs cells slots) (K : ∀ key2 : Int32, own_E p e below P T (mkF m 90 #[.val (.long q0), .second, .val (.long q2), .second, .val (.long q4), .second, .val (.int i6), .val (.int i7), .val (.int i8), .val (.long b), .second, .val (.long w1), .second, .val (.long w2), .second, .val (.int key2), .unset, .unset, .unset, .unset, .unset, .unset, .unset, .unset, .unset, .unset, .unset, .unset, .unset, .unset, .unset, .unset, .unset, .unset, .unset] [])) : own_E p e below P T (mkF m 73 #[.val (.long q0), .second, .val (.long q2), .second, .val (.long q4), .second, .val (.int i6), .val (.int i7), .val (.int i8), .val (.long b), .second, .val (.long w1), .second, .val (.long w2), .second, .unset, .unset, .unset, .unset, .unset, .unset, .unset, .unset, .unset, .unset, .unset, .unset, .unset, .unset, .unset, .unset, .unset, .unset, .unset, .unset] []) := by
  refine own_iload C X0 at_73 rfl rfl ?_
  refine own_bipush C X0 (8) at_75 rfl rfl ?_
  refine own_iand C X0 at_77 rfl ?_
  by_cases c : i8 &&& 8 = 0
  · refine own_ifY (pc' := 86) C X0 at_78 ((if0 _ _).trans (teq c).1) (by decide) (by decide) ?_
    refine own_iload C X0 at_86 rfl rfl ?_
    refine own_istore (L' := #[_, _, _, _, _, _, _, _, _, _, _, _, _, _, _, _, _, _, _, _, _, _, _, _, _, _, _, _, _, _, _, _, _, _, _]) C X0 at_88 rfl rfl ?_
    exact K _
  · refine own_ifN C X0 at_78 ((if0 _ _).trans (feq c).1) rfl ?_
    refine own_iload C X0 at_81 rfl rfl ?_
    refine own_goto (pc' := 88) C X0 at_83 (by decide) (by decide) ?_
    refine own_istore (L' := #[_, _, _, _, _, _, _, _, _, _, _, _, _, _, _, _, _, _, _, _, _, _, _, _, _, _, _, _, _, _, _, _, _, _, _]) C X0 at_88 rfl rfl ?_
    exact K _
set_option maxRecDepth 65536 in
set_option maxHeartbeats 40000000 in
theorem own_s6 {p : Program} {l : Launch} {e : Env} {R : Room} {s : State} {m : MethodId} {args : Array Value} {below : List Frame} {meth : Method} {c : Code} {T : State} {locs : List Loc} {cells slots : Nat} {Z : State} {a0 : Array Value} (hw : ∀ d ∈ tables_1, d.before a0 Z = true) {P : State → Outcome → Prop} {q0 : Int64} {q2 : Int64} {q4 : Int64} {i6 : Int32} {i7 : Int32} {i8 : Int32} {b : Int64} {w1 : Int64} {w2 : Int64} {key2 : Int32} (C : own_C p s m c code "com/example/isolith/isolith/history/WriteTableFindPinLaw" Z 35) (X0 : Stand p l e R s m args below meth c T locs cells slots) (K : ∀ op1 op2 qs : Int32, 0 ≤ op1.toInt → op1.toInt ≤ 1073741823 → 0 ≤ op2.toInt → op2.toInt ≤ 1073741823 → own_E p e below P T (mkF m 119 #[.val (.long q0), .second, .val (.long q2), .second, .val (.long q4), .second, .val (.int i6), .val (.int i7), .val (.int i8), .val (.long b), .second, .val (.long w1), .second, .val (.long w2), .second, .val (.int key2), .val (.int op1), .val (.int op2), .val (.int qs), .unset, .unset, .unset, .unset, .unset, .unset, .unset, .unset, .unset, .unset, .unset, .unset, .unset, .unset, .unset, .unset] [])) : own_E p e below P T (mkF m 90 #[.val (.long q0), .second, .val (.long q2), .second, .val (.long q4), .second, .val (.int i6), .val (.int i7), .val (.int i8), .val (.long b), .second, .val (.long w1), .second, .val (.long w2), .second, .val (.int key2), .unset, .unset, .unset, .unset, .unset, .unset, .unset, .unset, .unset, .unset, .unset, .unset, .unset, .unset, .unset, .unset, .unset, .unset, .unset] []) := by
  refine own_lloadN C X0 at_90 rfl rfl ?_
  refine own_bipush C X0 (32) at_91 rfl rfl ?_
  refine own_lushr C X0 at_93 rfl ?_
  refine own_l2i C X0 at_94 rfl ?_
  refine own_ldcI C X0 (hw _ (List.mem_of_getElem? (i := 1) rfl)) at_95 rfl ?_
  refine own_iand C X0 at_97 rfl ?_
  refine own_istore (L' := #[_, _, _, _, _, _, _, _, _, _, _, _, _, _, _, _, _, _, _, _, _, _, _, _, _, _, _, _, _, _, _, _, _, _, _]) C X0 at_98 rfl rfl ?_
  refine own_lload C X0 at_100 rfl rfl ?_
  refine own_bipush C X0 (32) at_102 rfl rfl ?_
  refine own_lushr C X0 at_104 rfl ?_
  refine own_l2i C X0 at_105 rfl ?_
  refine own_ldcI C X0 (hw _ (List.mem_of_getElem? (i := 1) rfl)) at_106 rfl ?_
  refine own_iand C X0 at_108 rfl ?_
  refine own_istore (L' := #[_, _, _, _, _, _, _, _, _, _, _, _, _, _, _, _, _, _, _, _, _, _, _, _, _, _, _, _, _, _, _, _, _, _, _]) C X0 at_109 rfl rfl ?_
  refine own_iload C X0 at_111 rfl rfl ?_
  refine own_iconst C X0 (5) at_113 rfl rfl ?_
  refine own_iushr C X0 at_114 rfl ?_
  refine own_iconst C X0 (3) at_115 rfl rfl ?_
  refine own_iand C X0 at_116 rfl ?_
  refine own_istore (L' := #[_, _, _, _, _, _, _, _, _, _, _, _, _, _, _, _, _, _, _, _, _, _, _, _, _, _, _, _, _, _, _, _, _, _, _]) C X0 at_117 rfl rfl ?_
  exact K _ _ _ (own_m30 _).1 (own_m30 _).2 (own_m30 _).1 (own_m30 _).2
set_option maxRecDepth 65536 in
set_option maxHeartbeats 40000000 in
theorem own_s7 {p : Program} {l : Launch} {e : Env} {R : Room} {s : State} {m : MethodId} {args : Array Value} {below : List Frame} {meth : Method} {c : Code} {T : State} {locs : List Loc} {cells slots : Nat} {Z : State} {a0 : Array Value} (hw : ∀ d ∈ tables_1, d.before a0 Z = true) {P : State → Outcome → Prop} {q0 : Int64} {q2 : Int64} {q4 : Int64} {i6 : Int32} {i7 : Int32} {i8 : Int32} {b : Int64} {w1 : Int64} {w2 : Int64} {key2 : Int32} {op1 : Int32} {op2 : Int32} {qs : Int32} (C : own_C p s m c code "com/example/isolith/isolith/history/WriteTableFindPinLaw" Z 35) (X0 : Stand p l e R s m args below meth c T locs cells slots) (K : ∀ qv : Int64, own_E p e below P T (mkF m 159 #[.val (.long q0), .second, .val (.long q2), .second, .val (.long q4), .second, .val (.int i6), .val (.int i7), .val (.int i8), .val (.long b), .second, .val (.long w1), .second, .val (.long w2), .second, .val (.int key2), .val (.int op1), .val (.int op2), .val (.int qs), .val (.long qv), .second, .unset, .unset, .unset, .unset, .unset, .unset, .unset, .unset, .unset, .unset, .unset, .unset, .unset, .unset] [])) : own_E p e below P T (mkF m 119 #[.val (.long q0), .second, .val (.long q2), .second, .val (.long q4), .second, .val (.int i6), .val (.int i7), .val (.int i8), .val (.long b), .second, .val (.long w1), .second, .val (.long w2), .second, .val (.int key2), .val (.int op1), .val (.int op2), .val (.int qs), .unset, .unset, .unset, .unset, .unset, .unset, .unset, .unset, .unset, .unset, .unset, .unset, .unset, .unset, .unset, .unset] []) := by
  refine own_iload C X0 at_119 rfl rfl ?_
  by_cases c0 : qs = 0
  · refine own_ifN C X0 at_121 ((if0 _ _).trans (teq c0).2) rfl ?_
    refine own_lload C X0 at_124 rfl rfl ?_
    refine own_goto (pc' := 157) C X0 at_126 (by decide) (by decide) ?_
    refine own_lstore (L' := #[_, _, _, _, _, _, _, _, _, _, _, _, _, _, _, _, _, _, _, _, _, _, _, _, _, _, _, _, _, _, _, _, _, _, _]) C X0 at_157 rfl rfl ?_
    exact K _
  · refine own_ifY (pc' := 129) C X0 at_121 ((if0 _ _).trans (feq c0).2) (by decide) (by decide) ?_
    refine own_iload C X0 at_129 rfl rfl ?_
    refine own_iconst C X0 (1) at_131 rfl rfl ?_
    by_cases c1 : qs = 1
    · refine own_icmpN C X0 at_132 (teq c1).2 rfl ?_
      refine own_lload C X0 at_135 rfl rfl ?_
      refine own_goto (pc' := 157) C X0 at_137 (by decide) (by decide) ?_
      refine own_lstore (L' := #[_, _, _, _, _, _, _, _, _, _, _, _, _, _, _, _, _, _, _, _, _, _, _, _, _, _, _, _, _, _, _, _, _, _, _]) C X0 at_157 rfl rfl ?_
      exact K _
    · refine own_icmpY (pc' := 140) C X0 at_132 (feq c1).2 (by decide) (by decide) ?_
      refine own_iload C X0 at_140 rfl rfl ?_
      refine own_iconst C X0 (2) at_142 rfl rfl ?_
      by_cases c2 : qs = 2
      · refine own_icmpN C X0 at_143 (teq c2).2 rfl ?_
        refine own_lload C X0 at_146 rfl rfl ?_
        refine own_goto (pc' := 157) C X0 at_148 (by decide) (by decide) ?_
        refine own_lstore (L' := #[_, _, _, _, _, _, _, _, _, _, _, _, _, _, _, _, _, _, _, _, _, _, _, _, _, _, _, _, _, _, _, _, _, _, _]) C X0 at_157 rfl rfl ?_
        exact K _
      · refine own_icmpY (pc' := 151) C X0 at_143 (feq c2).2 (by decide) (by decide) ?_
        refine own_lload C X0 at_151 rfl rfl ?_
        refine own_ldcJ C X0 (hw _ (List.mem_of_getElem? (i := 0) rfl)) at_153 rfl ?_
        refine own_land C X0 at_156 rfl ?_
        refine own_lstore (L' := #[_, _, _, _, _, _, _, _, _, _, _, _, _, _, _, _, _, _, _, _, _, _, _, _, _, _, _, _, _, _, _, _, _, _, _]) C X0 at_157 rfl rfl ?_
        exact K _
set_option maxRecDepth 65536 in
set_option maxHeartbeats 40000000 in
theorem own_s8 {p : Program} {l : Launch} {e : Env} {R : Room} {s : State} {m : MethodId} {args : Array Value} {below : List Frame} {meth : Method} {c : Code} {T : State} {locs : List Loc} {cells slots : Nat} {Z : State} {a0 : Array Value} (hw : ∀ d ∈ tables_1, d.before a0 Z = true) {P : State → Outcome → Prop} {q0 : Int64} {q2 : Int64} {q4 : Int64} {i6 : Int32} {i7 : Int32} {i8 : Int32} {b : Int64} {w1 : Int64} {w2 : Int64} {key2 : Int32} {op1 : Int32} {op2 : Int32} {qs : Int32} {qv : Int64} (C : own_C p s m c code "com/example/isolith/isolith/history/WriteTableFindPinLaw" Z 35) (X0 : Stand p l e R s m args below meth c T locs cells slots) (K : ∀ ks qk : Int32, own_E p e below P T (mkF m 209 #[.val (.long q0), .second, .val (.long q2), .second, .val (.long q4), .second, .val (.int i6), .val (.int i7), .val (.int i8), .val (.long b), .second, .val (.long w1), .second, .val (.long w2), .second, .val (.int key2), .val (.int op1), .val (.int op2), .val (.int qs), .val (.long qv), .second, .val (.int ks), .val (.int qk), .unset, .unset, .unset, .unset, .unset, .unset, .unset, .unset, .unset, .unset, .unset, .unset] [])) : own_E p e below P T (mkF m 159 #[.val (.long q0), .second, .val (.long q2), .second, .val (.long q4), .second, .val (.int i6), .val (.int i7), .val (.int i8), .val (.long b), .second, .val (.long w1), .second, .val (.long w2), .second, .val (.int key2), .val (.int op1), .val (.int op2), .val (.int qs), .val (.long qv), .second, .unset, .unset, .unset, .unset, .unset, .unset, .unset, .unset, .unset, .unset, .unset, .unset, .unset, .unset] []) := by
  refine own_iload C X0 at_159 rfl rfl ?_
  refine own_bipush C X0 (10) at_161 rfl rfl ?_
  refine own_iushr C X0 at_163 rfl ?_
  refine own_iconst C X0 (3) at_164 rfl rfl ?_
  refine own_iand C X0 at_165 rfl ?_
  refine own_istore (L' := #[_, _, _, _, _, _, _, _, _, _, _, _, _, _, _, _, _, _, _, _, _, _, _, _, _, _, _, _, _, _, _, _, _, _, _]) C X0 at_166 rfl rfl ?_
  generalize ((i8.toUInt32 >>> ((10 : Int32) &&& 31).toUInt32).toInt32 &&& 3) = ks
  refine own_iload C X0 at_168 rfl rfl ?_
  by_cases c0 : ks = 0
  · refine own_ifN C X0 at_170 ((if0 _ _).trans (teq c0).2) rfl ?_
    refine own_iload C X0 at_173 rfl rfl ?_
    refine own_goto (pc' := 207) C X0 at_175 (by decide) (by decide) ?_
    refine own_istore (L' := #[_, _, _, _, _, _, _, _, _, _, _, _, _, _, _, _, _, _, _, _, _, _, _, _, _, _, _, _, _, _, _, _, _, _, _]) C X0 at_207 rfl rfl ?_
    exact K _ _
  · refine own_ifY (pc' := 178) C X0 at_170 ((if0 _ _).trans (feq c0).2) (by decide) (by decide) ?_
    refine own_iload C X0 at_178 rfl rfl ?_
    refine own_iconst C X0 (1) at_180 rfl rfl ?_
    by_cases c1 : ks = 1
    · refine own_icmpN C X0 at_181 (teq c1).2 rfl ?_
      refine own_iload C X0 at_184 rfl rfl ?_
      refine own_goto (pc' := 207) C X0 at_186 (by decide) (by decide) ?_
      refine own_istore (L' := #[_, _, _, _, _, _, _, _, _, _, _, _, _, _, _, _, _, _, _, _, _, _, _, _, _, _, _, _, _, _, _, _, _, _, _]) C X0 at_207 rfl rfl ?_
      exact K _ _
    · refine own_icmpY (pc' := 189) C X0 at_181 (feq c1).2 (by decide) (by decide) ?_
      refine own_iload C X0 at_189 rfl rfl ?_
      refine own_iconst C X0 (2) at_191 rfl rfl ?_
      by_cases c2 : ks = 2
      · refine own_icmpN C X0 at_192 (teq c2).2 rfl ?_
        refine own_iload C X0 at_195 rfl rfl ?_
        refine own_iconst C X0 (1) at_197 rfl rfl ?_
        refine own_ixor C X0 at_198 rfl ?_
        refine own_goto (pc' := 207) C X0 at_199 (by decide) (by decide) ?_
        refine own_istore (L' := #[_, _, _, _, _, _, _, _, _, _, _, _, _, _, _, _, _, _, _, _, _, _, _, _, _, _, _, _, _, _, _, _, _, _, _]) C X0 at_207 rfl rfl ?_
        exact K _ _
      · refine own_icmpY (pc' := 202) C X0 at_192 (feq c2).2 (by decide) (by decide) ?_
        refine own_iload C X0 at_202 rfl rfl ?_
        refine own_ldcI C X0 (hw _ (List.mem_of_getElem? (i := 55) rfl)) at_204 rfl ?_
        refine own_ixor C X0 at_206 rfl ?_
        refine own_istore (L' := #[_, _, _, _, _, _, _, _, _, _, _, _, _, _, _, _, _, _, _, _, _, _, _, _, _, _, _, _, _, _, _, _, _, _, _]) C X0 at_207 rfl rfl ?_
        exact K _ _
set_option maxRecDepth 65536 in
set_option maxHeartbeats 40000000 in
theorem own_f1 {p : Program} {l : Launch} {e : Env} {R : Room} {s : State} {m : MethodId} {args : Array Value} {below : List Frame} {meth : Method} {c : Code} {T : State} {locs : List Loc} {cells slots : Nat} {Z : State} {a0 : Array Value} (hw : ∀ d ∈ tables_1, d.before a0 Z = true) {P : State → Outcome → Prop} {q0 : Int64} {q2 : Int64} {q4 : Int64} {i6 : Int32} {i7 : Int32} {i8 : Int32} {b : Int64} {w1 : Int64} {w2 : Int64} {key2 : Int32} {op1 : Int32} {op2 : Int32} {qs : Int32} {qv : Int64} {ks : Int32} {qk : Int32} {tr : Addr} {r1 : Int32} {r2 : Int32} {got : Int32} {lim : Int64} (C : own_C p s m c code "com/example/isolith/isolith/history/WriteTableFindPinLaw" Z 35) (X0 : Stand p l e R s m args below meth c T locs cells slots) (K : own_E p e below P T (mkF m 289 #[.val (.long q0), .second, .val (.long q2), .second, .val (.long q4), .second, .val (.int i6), .val (.int i7), .val (.int i8), .val (.long b), .second, .val (.long w1), .second, .val (.long w2), .second, .val (.int key2), .val (.int op1), .val (.int op2), .val (.int qs), .val (.long qv), .second, .val (.int ks), .val (.int qk), .val (.ref tr), .val (.int r1), .val (.int r2), .val (.int got), .val (.long lim), .second, .val (.int (own_bb (0 < w1 ∧ w1 < lim))), .unset, .unset, .unset, .unset, .unset] [])) : own_E p e below P T (mkF m 267 #[.val (.long q0), .second, .val (.long q2), .second, .val (.long q4), .second, .val (.int i6), .val (.int i7), .val (.int i8), .val (.long b), .second, .val (.long w1), .second, .val (.long w2), .second, .val (.int key2), .val (.int op1), .val (.int op2), .val (.int qs), .val (.long qv), .second, .val (.int ks), .val (.int qk), .val (.ref tr), .val (.int r1), .val (.int r2), .val (.int got), .val (.long lim), .second, .unset, .unset, .unset, .unset, .unset, .unset] []) := by
  refine own_lload C X0 at_267 rfl rfl ?_
  refine own_lconst C X0 (0) at_269 rfl rfl ?_
  by_cases c1 : 0 < w1
  · refine own_lcmp C X0 at_270 rfl ?_
    refine own_ifN C X0 at_271 ((if0 _ _).trans (tlt ((lw_gt _ _).mpr c1)).2.2.2) rfl ?_
    refine own_lload C X0 at_274 rfl rfl ?_
    refine own_lload C X0 at_276 rfl rfl ?_
    by_cases c2 : w1 < lim
    · refine own_lcmp C X0 at_278 rfl ?_
      refine own_ifN C X0 at_279 ((if0 _ _).trans (tlt ((lw_lt _ _).mpr c2)).2.1) rfl ?_
      refine own_iconst C X0 (1) at_282 rfl rfl ?_
      refine own_goto (pc' := 287) C X0 at_283 (by decide) (by decide) ?_
      refine own_istore (L' := #[_, _, _, _, _, _, _, _, _, _, _, _, _, _, _, _, _, _, _, _, _, _, _, _, _, _, _, _, _, _, _, _, _, _, _]) C X0 at_287 rfl rfl ?_
      rw [own_bb, if_pos ⟨c1, c2⟩] at K
      exact K
    · refine own_lcmp C X0 at_278 rfl ?_
      refine own_ifY (pc' := 286) C X0 at_279 ((if0 _ _).trans (flt (fun q => c2 ((lw_lt _ _).mp q))).2.1) (by decide) (by decide) ?_
      refine own_iconst C X0 (0) at_286 rfl rfl ?_
      refine own_istore (L' := #[_, _, _, _, _, _, _, _, _, _, _, _, _, _, _, _, _, _, _, _, _, _, _, _, _, _, _, _, _, _, _, _, _, _, _]) C X0 at_287 rfl rfl ?_
      rw [own_bb, if_neg (fun q => c2 q.2)] at K
      exact K
  · refine own_lcmp C X0 at_270 rfl ?_
    refine own_ifY (pc' := 286) C X0 at_271 ((if0 _ _).trans (flt (fun q => c1 ((lw_gt _ _).mp q))).2.2.2) (by decide) (by decide) ?_
    refine own_iconst C X0 (0) at_286 rfl rfl ?_
    refine own_istore (L' := #[_, _, _, _, _, _, _, _, _, _, _, _, _, _, _, _, _, _, _, _, _, _, _, _, _, _, _, _, _, _, _, _, _, _, _]) C X0 at_287 rfl rfl ?_
    rw [own_bb, if_neg (fun q => c1 q.1)] at K
    exact K
set_option maxRecDepth 65536 in
set_option maxHeartbeats 40000000 in
theorem own_f2 {p : Program} {l : Launch} {e : Env} {R : Room} {s : State} {m : MethodId} {args : Array Value} {below : List Frame} {meth : Method} {c : Code} {T : State} {locs : List Loc} {cells slots : Nat} {Z : State} {a0 : Array Value} (hw : ∀ d ∈ tables_1, d.before a0 Z = true) {P : State → Outcome → Prop} {q0 : Int64} {q2 : Int64} {q4 : Int64} {i6 : Int32} {i7 : Int32} {i8 : Int32} {b : Int64} {w1 : Int64} {w2 : Int64} {key2 : Int32} {op1 : Int32} {op2 : Int32} {qs : Int32} {qv : Int64} {ks : Int32} {qk : Int32} {tr : Addr} {r1 : Int32} {r2 : Int32} {got : Int32} {lim : Int64} {A : Prop} [Decidable A] (C : own_C p s m c code "com/example/isolith/isolith/history/WriteTableFindPinLaw" Z 35) (X0 : Stand p l e R s m args below meth c T locs cells slots) (K : own_E p e below P T (mkF m 311 #[.val (.long q0), .second, .val (.long q2), .second, .val (.long q4), .second, .val (.int i6), .val (.int i7), .val (.int i8), .val (.long b), .second, .val (.long w1), .second, .val (.long w2), .second, .val (.int key2), .val (.int op1), .val (.int op2), .val (.int qs), .val (.long qv), .second, .val (.int ks), .val (.int qk), .val (.ref tr), .val (.int r1), .val (.int r2), .val (.int got), .val (.long lim), .second, .val (.int (own_bb A)), .val (.int (own_bb (0 < w2 ∧ w2 < lim))), .unset, .unset, .unset, .unset] [])) : own_E p e below P T (mkF m 289 #[.val (.long q0), .second, .val (.long q2), .second, .val (.long q4), .second, .val (.int i6), .val (.int i7), .val (.int i8), .val (.long b), .second, .val (.long w1), .second, .val (.long w2), .second, .val (.int key2), .val (.int op1), .val (.int op2), .val (.int qs), .val (.long qv), .second, .val (.int ks), .val (.int qk), .val (.ref tr), .val (.int r1), .val (.int r2), .val (.int got), .val (.long lim), .second, .val (.int (own_bb A)), .unset, .unset, .unset, .unset, .unset] []) := by
  refine own_lload C X0 at_289 rfl rfl ?_
  refine own_lconst C X0 (0) at_291 rfl rfl ?_
  by_cases c1 : 0 < w2
  · refine own_lcmp C X0 at_292 rfl ?_
    refine own_ifN C X0 at_293 ((if0 _ _).trans (tlt ((lw_gt _ _).mpr c1)).2.2.2) rfl ?_
    refine own_lload C X0 at_296 rfl rfl ?_
    refine own_lload C X0 at_298 rfl rfl ?_
    by_cases c2 : w2 < lim
    · refine own_lcmp C X0 at_300 rfl ?_
      refine own_ifN C X0 at_301 ((if0 _ _).trans (tlt ((lw_lt _ _).mpr c2)).2.1) rfl ?_
      refine own_iconst C X0 (1) at_304 rfl rfl ?_
      refine own_goto (pc' := 309) C X0 at_305 (by decide) (by decide) ?_
      refine own_istore (L' := #[_, _, _, _, _, _, _, _, _, _, _, _, _, _, _, _, _, _, _, _, _, _, _, _, _, _, _, _, _, _, _, _, _, _, _]) C X0 at_309 rfl rfl ?_
      rw [own_bb, if_pos ⟨c1, c2⟩] at K
      exact K
    · refine own_lcmp C X0 at_300 rfl ?_
      refine own_ifY (pc' := 308) C X0 at_301 ((if0 _ _).trans (flt (fun q => c2 ((lw_lt _ _).mp q))).2.1) (by decide) (by decide) ?_
      refine own_iconst C X0 (0) at_308 rfl rfl ?_
      refine own_istore (L' := #[_, _, _, _, _, _, _, _, _, _, _, _, _, _, _, _, _, _, _, _, _, _, _, _, _, _, _, _, _, _, _, _, _, _, _]) C X0 at_309 rfl rfl ?_
      rw [own_bb, if_neg (fun q => c2 q.2)] at K
      exact K
  · refine own_lcmp C X0 at_292 rfl ?_
    refine own_ifY (pc' := 308) C X0 at_293 ((if0 _ _).trans (flt (fun q => c1 ((lw_gt _ _).mp q))).2.2.2) (by decide) (by decide) ?_
    refine own_iconst C X0 (0) at_308 rfl rfl ?_
    refine own_istore (L' := #[_, _, _, _, _, _, _, _, _, _, _, _, _, _, _, _, _, _, _, _, _, _, _, _, _, _, _, _, _, _, _, _, _, _, _]) C X0 at_309 rfl rfl ?_
    rw [own_bb, if_neg (fun q => c1 q.1)] at K
    exact K
set_option maxRecDepth 65536 in
set_option maxHeartbeats 40000000 in
theorem own_f3 {p : Program} {l : Launch} {e : Env} {R : Room} {s : State} {m : MethodId} {args : Array Value} {below : List Frame} {meth : Method} {c : Code} {T : State} {locs : List Loc} {cells slots : Nat} {Z : State} {a0 : Array Value} (hw : ∀ d ∈ tables_1, d.before a0 Z = true) {P : State → Outcome → Prop} {q0 : Int64} {q2 : Int64} {q4 : Int64} {i6 : Int32} {i7 : Int32} {i8 : Int32} {b : Int64} {w1 : Int64} {w2 : Int64} {key2 : Int32} {op1 : Int32} {op2 : Int32} {qs : Int32} {qv : Int64} {ks : Int32} {qk : Int32} {tr : Addr} {r1 : Int32} {r2 : Int32} {got : Int32} {lim : Int64} {A B : Prop} [Decidable A] [Decidable B] (C : own_C p s m c code "com/example/isolith/isolith/history/WriteTableFindPinLaw" Z 35) (X0 : Stand p l e R s m args below meth c T locs cells slots) (K : own_E p e below P T (mkF m 331 #[.val (.long q0), .second, .val (.long q2), .second, .val (.long q4), .second, .val (.int i6), .val (.int i7), .val (.int i8), .val (.long b), .second, .val (.long w1), .second, .val (.long w2), .second, .val (.int key2), .val (.int op1), .val (.int op2), .val (.int qs), .val (.long qv), .second, .val (.int ks), .val (.int qk), .val (.ref tr), .val (.int r1), .val (.int r2), .val (.int got), .val (.long lim), .second, .val (.int (own_bb A)), .val (.int (own_bb B)), .val (.int (own_bb (A ∧ w2 = w1))), .unset, .unset, .unset] [])) : own_E p e below P T (mkF m 311 #[.val (.long q0), .second, .val (.long q2), .second, .val (.long q4), .second, .val (.int i6), .val (.int i7), .val (.int i8), .val (.long b), .second, .val (.long w1), .second, .val (.long w2), .second, .val (.int key2), .val (.int op1), .val (.int op2), .val (.int qs), .val (.long qv), .second, .val (.int ks), .val (.int qk), .val (.ref tr), .val (.int r1), .val (.int r2), .val (.int got), .val (.long lim), .second, .val (.int (own_bb A)), .val (.int (own_bb B)), .unset, .unset, .unset, .unset] []) := by
  refine own_iload C X0 at_311 rfl rfl ?_
  by_cases a : A
  · refine own_ifN C X0 at_313 ((if0 _ _).trans (feq (by rw [own_bb, if_pos a]; decide)).1) rfl ?_
    refine own_lload C X0 at_316 rfl rfl ?_
    refine own_lload C X0 at_318 rfl rfl ?_
    by_cases c : w2 = w1
    · refine own_lcmp C X0 at_320 rfl ?_
      refine own_ifN C X0 at_321 ((if0 _ _).trans (teq ((lw_eq _ _).mpr c)).2) rfl ?_
      refine own_iconst C X0 (1) at_324 rfl rfl ?_
      refine own_goto (pc' := 329) C X0 at_325 (by decide) (by decide) ?_
      refine own_istore (L' := #[_, _, _, _, _, _, _, _, _, _, _, _, _, _, _, _, _, _, _, _, _, _, _, _, _, _, _, _, _, _, _, _, _, _, _]) C X0 at_329 rfl rfl ?_
      have kk : own_bb (A ∧ w2 = w1) = 1 := if_pos ⟨a, c⟩
      rw [kk] at K
      exact K
    · refine own_lcmp C X0 at_320 rfl ?_
      refine own_ifY (pc' := 328) C X0 at_321 ((if0 _ _).trans (feq (fun q => c ((lw_eq _ _).mp q))).2) (by decide) (by decide) ?_
      refine own_iconst C X0 (0) at_328 rfl rfl ?_
      refine own_istore (L' := #[_, _, _, _, _, _, _, _, _, _, _, _, _, _, _, _, _, _, _, _, _, _, _, _, _, _, _, _, _, _, _, _, _, _, _]) C X0 at_329 rfl rfl ?_
      have kk : own_bb (A ∧ w2 = w1) = 0 := if_neg (fun q => c q.2)
      rw [kk] at K
      exact K
  · refine own_ifY (pc' := 328) C X0 at_313 ((if0 _ _).trans (teq (by rw [own_bb, if_neg a])).1) (by decide) (by decide) ?_
    refine own_iconst C X0 (0) at_328 rfl rfl ?_
    refine own_istore (L' := #[_, _, _, _, _, _, _, _, _, _, _, _, _, _, _, _, _, _, _, _, _, _, _, _, _, _, _, _, _, _, _, _, _, _, _]) C X0 at_329 rfl rfl ?_
    have kk : own_bb (A ∧ w2 = w1) = 0 := if_neg (fun q => a q.1)
    rw [kk] at K
    exact K
set_option maxRecDepth 65536 in
set_option maxHeartbeats 40000000 in
theorem own_f4 {p : Program} {l : Launch} {e : Env} {R : Room} {s : State} {m : MethodId} {args : Array Value} {below : List Frame} {meth : Method} {c : Code} {T : State} {locs : List Loc} {cells slots : Nat} {Z : State} {a0 : Array Value} (hw : ∀ d ∈ tables_1, d.before a0 Z = true) {P : State → Outcome → Prop} {q0 : Int64} {q2 : Int64} {q4 : Int64} {i6 : Int32} {i7 : Int32} {i8 : Int32} {b : Int64} {w1 : Int64} {w2 : Int64} {key2 : Int32} {op1 : Int32} {op2 : Int32} {qs : Int32} {qv : Int64} {ks : Int32} {qk : Int32} {tr : Addr} {r1 : Int32} {r2 : Int32} {got : Int32} {lim : Int64} {A B D : Prop} [Decidable A] [Decidable B] [Decidable D] (C : own_C p s m c code "com/example/isolith/isolith/history/WriteTableFindPinLaw" Z 35) (X0 : Stand p l e R s m args below meth c T locs cells slots) (K : own_E p e below P T (mkF m 348 #[.val (.long q0), .second, .val (.long q2), .second, .val (.long q4), .second, .val (.int i6), .val (.int i7), .val (.int i8), .val (.long b), .second, .val (.long w1), .second, .val (.long w2), .second, .val (.int key2), .val (.int op1), .val (.int op2), .val (.int qs), .val (.long qv), .second, .val (.int ks), .val (.int qk), .val (.ref tr), .val (.int r1), .val (.int r2), .val (.int got), .val (.long lim), .second, .val (.int (own_bb A)), .val (.int (own_bb B)), .val (.int (own_bb D)), .val (.int (own_bb (B ∧ ¬ D))), .unset, .unset] [])) : own_E p e below P T (mkF m 331 #[.val (.long q0), .second, .val (.long q2), .second, .val (.long q4), .second, .val (.int i6), .val (.int i7), .val (.int i8), .val (.long b), .second, .val (.long w1), .second, .val (.long w2), .second, .val (.int key2), .val (.int op1), .val (.int op2), .val (.int qs), .val (.long qv), .second, .val (.int ks), .val (.int qk), .val (.ref tr), .val (.int r1), .val (.int r2), .val (.int got), .val (.long lim), .second, .val (.int (own_bb A)), .val (.int (own_bb B)), .val (.int (own_bb D)), .unset, .unset, .unset] []) := by
  refine own_iload C X0 at_331 rfl rfl ?_
  by_cases a : B
  · refine own_ifN C X0 at_333 ((if0 _ _).trans (feq (by rw [own_bb, if_pos a]; decide)).1) rfl ?_
    refine own_iload C X0 at_336 rfl rfl ?_
    by_cases d : D
    · refine own_ifY (pc' := 345) C X0 at_338 ((if0 _ _).trans (feq (by rw [own_bb, if_pos d]; decide)).2) (by decide) (by decide) ?_
      refine own_iconst C X0 (0) at_345 rfl rfl ?_
      refine own_istore (L' := #[_, _, _, _, _, _, _, _, _, _, _, _, _, _, _, _, _, _, _, _, _, _, _, _, _, _, _, _, _, _, _, _, _, _, _]) C X0 at_346 rfl rfl ?_
      have kk : own_bb (B ∧ ¬ D) = 0 := if_neg (fun q => q.2 d)
      rw [kk] at K
      exact K
    · refine own_ifN C X0 at_338 ((if0 _ _).trans (teq (by rw [own_bb, if_neg d])).2) rfl ?_
      refine own_iconst C X0 (1) at_341 rfl rfl ?_
      refine own_goto (pc' := 346) C X0 at_342 (by decide) (by decide) ?_
      refine own_istore (L' := #[_, _, _, _, _, _, _, _, _, _, _, _, _, _, _, _, _, _, _, _, _, _, _, _, _, _, _, _, _, _, _, _, _, _, _]) C X0 at_346 rfl rfl ?_
      have kk : own_bb (B ∧ ¬ D) = 1 := if_pos ⟨a, d⟩
      rw [kk] at K
      exact K
  · refine own_ifY (pc' := 345) C X0 at_333 ((if0 _ _).trans (teq (by rw [own_bb, if_neg a])).1) (by decide) (by decide) ?_
    refine own_iconst C X0 (0) at_345 rfl rfl ?_
    refine own_istore (L' := #[_, _, _, _, _, _, _, _, _, _, _, _, _, _, _, _, _, _, _, _, _, _, _, _, _, _, _, _, _, _, _, _, _, _, _]) C X0 at_346 rfl rfl ?_
    have kk : own_bb (B ∧ ¬ D) = 0 := if_neg (fun q => a q.1)
    rw [kk] at K
    exact K
set_option maxRecDepth 65536 in
set_option maxHeartbeats 40000000 in
theorem own_f5 {p : Program} {l : Launch} {e : Env} {R : Room} {s : State} {m : MethodId} {args : Array Value} {below : List Frame} {meth : Method} {c : Code} {T : State} {locs : List Loc} {cells slots : Nat} {Z : State} {a0 : Array Value} (hw : ∀ d ∈ tables_1, d.before a0 Z = true) {P : State → Outcome → Prop} {q0 : Int64} {q2 : Int64} {q4 : Int64} {i6 : Int32} {i7 : Int32} {i8 : Int32} {b : Int64} {w1 : Int64} {w2 : Int64} {key2 : Int32} {op1 : Int32} {op2 : Int32} {qs : Int32} {qv : Int64} {ks : Int32} {qk : Int32} {tr : Addr} {r1 : Int32} {r2 : Int32} {got : Int32} {lim : Int64} {A B D I : Prop} [Decidable A] [Decidable B] [Decidable D] [Decidable I] (C : own_C p s m c code "com/example/isolith/isolith/history/WriteTableFindPinLaw" Z 35) (X0 : Stand p l e R s m args below meth c T locs cells slots) (K : own_E p e below P T (mkF m 372 #[.val (.long q0), .second, .val (.long q2), .second, .val (.long q4), .second, .val (.int i6), .val (.int i7), .val (.int i8), .val (.long b), .second, .val (.long w1), .second, .val (.long w2), .second, .val (.int key2), .val (.int op1), .val (.int op2), .val (.int qs), .val (.long qv), .second, .val (.int ks), .val (.int qk), .val (.ref tr), .val (.int r1), .val (.int r2), .val (.int got), .val (.long lim), .second, .val (.int (own_bb A)), .val (.int (own_bb B)), .val (.int (own_bb D)), .val (.int (own_bb I)), .val (.int (own_bb (B ∧ (¬ D ∨ key2 = i6)))), .unset] [])) : own_E p e below P T (mkF m 348 #[.val (.long q0), .second, .val (.long q2), .second, .val (.long q4), .second, .val (.int i6), .val (.int i7), .val (.int i8), .val (.long b), .second, .val (.long w1), .second, .val (.long w2), .second, .val (.int key2), .val (.int op1), .val (.int op2), .val (.int qs), .val (.long qv), .second, .val (.int ks), .val (.int qk), .val (.ref tr), .val (.int r1), .val (.int r2), .val (.int got), .val (.long lim), .second, .val (.int (own_bb A)), .val (.int (own_bb B)), .val (.int (own_bb D)), .val (.int (own_bb I)), .unset, .unset] []) := by
  refine own_iload C X0 at_348 rfl rfl ?_
  by_cases a : B
  · refine own_ifN C X0 at_350 ((if0 _ _).trans (feq (by rw [own_bb, if_pos a]; decide)).1) rfl ?_
    refine own_iload C X0 at_353 rfl rfl ?_
    by_cases d : D
    · refine own_ifN C X0 at_355 ((if0 _ _).trans (feq (by rw [own_bb, if_pos d]; decide)).1) rfl ?_
      refine own_iload C X0 at_358 rfl rfl ?_
      refine own_iload C X0 at_360 rfl rfl ?_
      by_cases k : key2 = i6
      · refine own_icmpN C X0 at_362 (teq k).2 rfl ?_
        refine own_iconst C X0 (1) at_365 rfl rfl ?_
        refine own_goto (pc' := 370) C X0 at_366 (by decide) (by decide) ?_
        refine own_istore (L' := #[_, _, _, _, _, _, _, _, _, _, _, _, _, _, _, _, _, _, _, _, _, _, _, _, _, _, _, _, _, _, _, _, _, _, _]) C X0 at_370 rfl rfl ?_
        have kk : own_bb (B ∧ (¬ D ∨ key2 = i6)) = 1 := if_pos ⟨a, Or.inr k⟩
        rw [kk] at K
        exact K
      · refine own_icmpY (pc' := 369) C X0 at_362 (feq k).2 (by decide) (by decide) ?_
        refine own_iconst C X0 (0) at_369 rfl rfl ?_
        refine own_istore (L' := #[_, _, _, _, _, _, _, _, _, _, _, _, _, _, _, _, _, _, _, _, _, _, _, _, _, _, _, _, _, _, _, _, _, _, _]) C X0 at_370 rfl rfl ?_
        have kk : own_bb (B ∧ (¬ D ∨ key2 = i6)) = 0 := if_neg (fun q => q.2.elim (fun r => r d) k)
        rw [kk] at K
        exact K
    · refine own_ifY (pc' := 365) C X0 at_355 ((if0 _ _).trans (teq (by rw [own_bb, if_neg d])).1) (by decide) (by decide) ?_
      refine own_iconst C X0 (1) at_365 rfl rfl ?_
      refine own_goto (pc' := 370) C X0 at_366 (by decide) (by decide) ?_
      refine own_istore (L' := #[_, _, _, _, _, _, _, _, _, _, _, _, _, _, _, _, _, _, _, _, _, _, _, _, _, _, _, _, _, _, _, _, _, _, _]) C X0 at_370 rfl rfl ?_
      have kk : own_bb (B ∧ (¬ D ∨ key2 = i6)) = 1 := if_pos ⟨a, Or.inl d⟩
      rw [kk] at K
      exact K
  · refine own_ifY (pc' := 369) C X0 at_350 ((if0 _ _).trans (teq (by rw [own_bb, if_neg a])).1) (by decide) (by decide) ?_
    refine own_iconst C X0 (0) at_369 rfl rfl ?_
    refine own_istore (L' := #[_, _, _, _, _, _, _, _, _, _, _, _, _, _, _, _, _, _, _, _, _, _, _, _, _, _, _, _, _, _, _, _, _, _, _]) C X0 at_370 rfl rfl ?_
    have kk : own_bb (B ∧ (¬ D ∨ key2 = i6)) = 0 := if_neg (fun q => a q.1)
    rw [kk] at K
    exact K
set_option maxRecDepth 65536 in
set_option maxHeartbeats 40000000 in
theorem own_f6 {p : Program} {l : Launch} {e : Env} {R : Room} {s : State} {m : MethodId} {args : Array Value} {below : List Frame} {meth : Method} {c : Code} {T : State} {locs : List Loc} {cells slots : Nat} {Z : State} {a0 : Array Value} (hw : ∀ d ∈ tables_1, d.before a0 Z = true) {P : State → Outcome → Prop} {q0 : Int64} {q2 : Int64} {q4 : Int64} {i6 : Int32} {i7 : Int32} {i8 : Int32} {b : Int64} {w1 : Int64} {w2 : Int64} {key2 : Int32} {op1 : Int32} {op2 : Int32} {qs : Int32} {qv : Int64} {ks : Int32} {qk : Int32} {tr : Addr} {r1 : Int32} {r2 : Int32} {got : Int32} {lim : Int64} {A B D I J : Prop} [Decidable A] [Decidable B] [Decidable D] [Decidable I] [Decidable J] (C : own_C p s m c code "com/example/isolith/isolith/history/WriteTableFindPinLaw" Z 35) (X0 : Stand p l e R s m args below meth c T locs cells slots) (K : own_E p e below P T (mkF m 425 #[.val (.long q0), .second, .val (.long q2), .second, .val (.long q4), .second, .val (.int i6), .val (.int i7), .val (.int i8), .val (.long b), .second, .val (.long w1), .second, .val (.long w2), .second, .val (.int key2), .val (.int op1), .val (.int op2), .val (.int qs), .val (.long qv), .second, .val (.int ks), .val (.int qk), .val (.ref tr), .val (.int r1), .val (.int r2), .val (.int got), .val (.long lim), .second, .val (.int (own_bb A)), .val (.int (own_bb B)), .val (.int (own_bb D)), .val (.int (own_bb I)), .val (.int (own_bb J)), .val (.int (if A ∧ qv = w1 ∧ qk = i6 then op1 else if I ∧ qv = w2 ∧ qk = key2 then op2 else -1))] [])) : own_E p e below P T (mkF m 372 #[.val (.long q0), .second, .val (.long q2), .second, .val (.long q4), .second, .val (.int i6), .val (.int i7), .val (.int i8), .val (.long b), .second, .val (.long w1), .second, .val (.long w2), .second, .val (.int key2), .val (.int op1), .val (.int op2), .val (.int qs), .val (.long qv), .second, .val (.int ks), .val (.int qk), .val (.ref tr), .val (.int r1), .val (.int r2), .val (.int got), .val (.long lim), .second, .val (.int (own_bb A)), .val (.int (own_bb B)), .val (.int (own_bb D)), .val (.int (own_bb I)), .val (.int (own_bb J)), .unset] []) := by
  refine own_iload C X0 at_372 rfl rfl ?_
  by_cases a : A
  · refine own_ifN C X0 at_374 ((if0 _ _).trans (feq (by rw [own_bb, if_pos a]; decide)).1) rfl ?_
    refine own_lload C X0 at_377 rfl rfl ?_
    refine own_lload C X0 at_379 rfl rfl ?_
    by_cases e0 : qv = w1
    · refine own_lcmp C X0 at_381 rfl ?_
      refine own_ifN C X0 at_382 ((if0 _ _).trans (teq ((lw_eq _ _).mpr e0)).2) rfl ?_
      refine own_iload C X0 at_385 rfl rfl ?_
      refine own_iload C X0 at_387 rfl rfl ?_
      by_cases e1 : qk = i6
      · refine own_icmpN C X0 at_389 (teq e1).2 rfl ?_
        refine own_iload C X0 at_392 rfl rfl ?_
        refine own_goto (pc' := 423) C X0 at_394 (by decide) (by decide) ?_
        refine own_istore (L' := #[_, _, _, _, _, _, _, _, _, _, _, _, _, _, _, _, _, _, _, _, _, _, _, _, _, _, _, _, _, _, _, _, _, _, _]) C X0 at_423 rfl rfl ?_
        rw [if_pos ⟨a, e0, e1⟩] at K
        exact K
      · refine own_icmpY (pc' := 397) C X0 at_389 (feq e1).2 (by decide) (by decide) ?_
        rw [if_neg (show ¬ (A ∧ qv = w1 ∧ qk = i6) from fun q => e1 q.2.2)] at K
        refine own_iload C X0 at_397 rfl rfl ?_
        by_cases i : I
        · refine own_ifN C X0 at_399 ((if0 _ _).trans (feq (by rw [own_bb, if_pos i]; decide)).1) rfl ?_
          refine own_lload C X0 at_402 rfl rfl ?_
          refine own_lload C X0 at_404 rfl rfl ?_
          by_cases e2 : qv = w2
          · refine own_lcmp C X0 at_406 rfl ?_
            refine own_ifN C X0 at_407 ((if0 _ _).trans (teq ((lw_eq _ _).mpr e2)).2) rfl ?_
            refine own_iload C X0 at_410 rfl rfl ?_
            refine own_iload C X0 at_412 rfl rfl ?_
            by_cases e3 : qk = key2
            · refine own_icmpN C X0 at_414 (teq e3).2 rfl ?_
              refine own_iload C X0 at_417 rfl rfl ?_
              refine own_goto (pc' := 423) C X0 at_419 (by decide) (by decide) ?_
              refine own_istore (L' := #[_, _, _, _, _, _, _, _, _, _, _, _, _, _, _, _, _, _, _, _, _, _, _, _, _, _, _, _, _, _, _, _, _, _, _]) C X0 at_423 rfl rfl ?_
              rw [if_pos ⟨i, e2, e3⟩] at K
              exact K
            · refine own_icmpY (pc' := 422) C X0 at_414 (feq e3).2 (by decide) (by decide) ?_
              refine own_iconst C X0 (-1) at_422 rfl rfl ?_
              refine own_istore (L' := #[_, _, _, _, _, _, _, _, _, _, _, _, _, _, _, _, _, _, _, _, _, _, _, _, _, _, _, _, _, _, _, _, _, _, _]) C X0 at_423 rfl rfl ?_
              rw [if_neg (fun q => e3 q.2.2)] at K
              exact K
          · refine own_lcmp C X0 at_406 rfl ?_
            refine own_ifY (pc' := 422) C X0 at_407 ((if0 _ _).trans (feq (fun q => e2 ((lw_eq _ _).mp q))).2) (by decide) (by decide) ?_
            refine own_iconst C X0 (-1) at_422 rfl rfl ?_
            refine own_istore (L' := #[_, _, _, _, _, _, _, _, _, _, _, _, _, _, _, _, _, _, _, _, _, _, _, _, _, _, _, _, _, _, _, _, _, _, _]) C X0 at_423 rfl rfl ?_
            rw [if_neg (fun q => e2 q.2.1)] at K
            exact K
        · refine own_ifY (pc' := 422) C X0 at_399 ((if0 _ _).trans (teq (by rw [own_bb, if_neg i])).1) (by decide) (by decide) ?_
          refine own_iconst C X0 (-1) at_422 rfl rfl ?_
          refine own_istore (L' := #[_, _, _, _, _, _, _, _, _, _, _, _, _, _, _, _, _, _, _, _, _, _, _, _, _, _, _, _, _, _, _, _, _, _, _]) C X0 at_423 rfl rfl ?_
          rw [if_neg (fun q => i q.1)] at K
          exact K
    · refine own_lcmp C X0 at_381 rfl ?_
      refine own_ifY (pc' := 397) C X0 at_382 ((if0 _ _).trans (feq (fun q => e0 ((lw_eq _ _).mp q))).2) (by decide) (by decide) ?_
      rw [if_neg (show ¬ (A ∧ qv = w1 ∧ qk = i6) from fun q => e0 q.2.1)] at K
      refine own_iload C X0 at_397 rfl rfl ?_
      by_cases i : I
      · refine own_ifN C X0 at_399 ((if0 _ _).trans (feq (by rw [own_bb, if_pos i]; decide)).1) rfl ?_
        refine own_lload C X0 at_402 rfl rfl ?_
        refine own_lload C X0 at_404 rfl rfl ?_
        by_cases e2 : qv = w2
        · refine own_lcmp C X0 at_406 rfl ?_
          refine own_ifN C X0 at_407 ((if0 _ _).trans (teq ((lw_eq _ _).mpr e2)).2) rfl ?_
          refine own_iload C X0 at_410 rfl rfl ?_
          refine own_iload C X0 at_412 rfl rfl ?_
          by_cases e3 : qk = key2
          · refine own_icmpN C X0 at_414 (teq e3).2 rfl ?_
            refine own_iload C X0 at_417 rfl rfl ?_
            refine own_goto (pc' := 423) C X0 at_419 (by decide) (by decide) ?_
            refine own_istore (L' := #[_, _, _, _, _, _, _, _, _, _, _, _, _, _, _, _, _, _, _, _, _, _, _, _, _, _, _, _, _, _, _, _, _, _, _]) C X0 at_423 rfl rfl ?_
            rw [if_pos ⟨i, e2, e3⟩] at K
            exact K
          · refine own_icmpY (pc' := 422) C X0 at_414 (feq e3).2 (by decide) (by decide) ?_
            refine own_iconst C X0 (-1) at_422 rfl rfl ?_
            refine own_istore (L' := #[_, _, _, _, _, _, _, _, _, _, _, _, _, _, _, _, _, _, _, _, _, _, _, _, _, _, _, _, _, _, _, _, _, _, _]) C X0 at_423 rfl rfl ?_
            rw [if_neg (fun q => e3 q.2.2)] at K
            exact K
        · refine own_lcmp C X0 at_406 rfl ?_
          refine own_ifY (pc' := 422) C X0 at_407 ((if0 _ _).trans (feq (fun q => e2 ((lw_eq _ _).mp q))).2) (by decide) (by decide) ?_
          refine own_iconst C X0 (-1) at_422 rfl rfl ?_
          refine own_istore (L' := #[_, _, _, _, _, _, _, _, _, _, _, _, _, _, _, _, _, _, _, _, _, _, _, _, _, _, _, _, _, _, _, _, _, _, _]) C X0 at_423 rfl rfl ?_
          rw [if_neg (fun q => e2 q.2.1)] at K
          exact K
      · refine own_ifY (pc' := 422) C X0 at_399 ((if0 _ _).trans (teq (by rw [own_bb, if_neg i])).1) (by decide) (by decide) ?_
        refine own_iconst C X0 (-1) at_422 rfl rfl ?_
        refine own_istore (L' := #[_, _, _, _, _, _, _, _, _, _, _, _, _, _, _, _, _, _, _, _, _, _, _, _, _, _, _, _, _, _, _, _, _, _, _]) C X0 at_423 rfl rfl ?_
        rw [if_neg (fun q => i q.1)] at K
        exact K
  · refine own_ifY (pc' := 397) C X0 at_374 ((if0 _ _).trans (teq (by rw [own_bb, if_neg a])).1) (by decide) (by decide) ?_
    rw [if_neg (show ¬ (A ∧ qv = w1 ∧ qk = i6) from fun q => a q.1)] at K
    refine own_iload C X0 at_397 rfl rfl ?_
    by_cases i : I
    · refine own_ifN C X0 at_399 ((if0 _ _).trans (feq (by rw [own_bb, if_pos i]; decide)).1) rfl ?_
      refine own_lload C X0 at_402 rfl rfl ?_
      refine own_lload C X0 at_404 rfl rfl ?_
      by_cases e2 : qv = w2
      · refine own_lcmp C X0 at_406 rfl ?_
        refine own_ifN C X0 at_407 ((if0 _ _).trans (teq ((lw_eq _ _).mpr e2)).2) rfl ?_
        refine own_iload C X0 at_410 rfl rfl ?_
        refine own_iload C X0 at_412 rfl rfl ?_
        by_cases e3 : qk = key2
        · refine own_icmpN C X0 at_414 (teq e3).2 rfl ?_
          refine own_iload C X0 at_417 rfl rfl ?_
          refine own_goto (pc' := 423) C X0 at_419 (by decide) (by decide) ?_
          refine own_istore (L' := #[_, _, _, _, _, _, _, _, _, _, _, _, _, _, _, _, _, _, _, _, _, _, _, _, _, _, _, _, _, _, _, _, _, _, _]) C X0 at_423 rfl rfl ?_
          rw [if_pos ⟨i, e2, e3⟩] at K
          exact K
        · refine own_icmpY (pc' := 422) C X0 at_414 (feq e3).2 (by decide) (by decide) ?_
          refine own_iconst C X0 (-1) at_422 rfl rfl ?_
          refine own_istore (L' := #[_, _, _, _, _, _, _, _, _, _, _, _, _, _, _, _, _, _, _, _, _, _, _, _, _, _, _, _, _, _, _, _, _, _, _]) C X0 at_423 rfl rfl ?_
          rw [if_neg (fun q => e3 q.2.2)] at K
          exact K
      · refine own_lcmp C X0 at_406 rfl ?_
        refine own_ifY (pc' := 422) C X0 at_407 ((if0 _ _).trans (feq (fun q => e2 ((lw_eq _ _).mp q))).2) (by decide) (by decide) ?_
        refine own_iconst C X0 (-1) at_422 rfl rfl ?_
        refine own_istore (L' := #[_, _, _, _, _, _, _, _, _, _, _, _, _, _, _, _, _, _, _, _, _, _, _, _, _, _, _, _, _, _, _, _, _, _, _]) C X0 at_423 rfl rfl ?_
        rw [if_neg (fun q => e2 q.2.1)] at K
        exact K
    · refine own_ifY (pc' := 422) C X0 at_399 ((if0 _ _).trans (teq (by rw [own_bb, if_neg i])).1) (by decide) (by decide) ?_
      refine own_iconst C X0 (-1) at_422 rfl rfl ?_
      refine own_istore (L' := #[_, _, _, _, _, _, _, _, _, _, _, _, _, _, _, _, _, _, _, _, _, _, _, _, _, _, _, _, _, _, _, _, _, _, _]) C X0 at_423 rfl rfl ?_
      rw [if_neg (fun q => i q.1)] at K
      exact K
theorem pd_J : parseMethodDescriptor "(J)V" = some ⟨[.long], none⟩ := by decide +kernel
theorem pd_A : parseMethodDescriptor "(IIJ)Z" = some ⟨[.int, .int, .long], some .boolean⟩ := by decide +kernel
theorem pd_F : parseMethodDescriptor "(IJ)I" = some ⟨[.int, .long], some .int⟩ := by decide +kernel
theorem pn_0 : plainName "com/example/isolith/isolith/history/WriteTableFindPinLaw" = true := by first | (simp [plainName, overriddenIn]; done) | decide +kernel
def Q0 (Z : State) (q0 : Int64) (q2 : Int64) (q4 : Int64) (i6 : Int32) (i7 : Int32) (i8 : Int32) (h0 : Heap) (n0 : Nat) (v : Option Value) (h : Heap) (L : List Loc) : Prop := v = some (.int 1) ∧ Fr n0 L
theorem ef_0 (m : MethodId) (q0 : Int64) (q2 : Int64) (q4 : Int64) (i6 : Int32) (i7 : Int32) (i8 : Int32) : entryFrame m #[(.long q0), (.long q2), (.long q4), (.int i6), (.int i7), (.int i8)] maxLocals = mkF m 0 #[.val (.long q0), .second, .val (.long q2), .second, .val (.long q4), .second, .val (.int i6), .val (.int i7), .val (.int i8), .unset, .unset, .unset, .unset, .unset, .unset, .unset, .unset, .unset, .unset, .unset, .unset, .unset, .unset, .unset, .unset, .unset, .unset, .unset, .unset, .unset, .unset, .unset, .unset, .unset, .unset] [] := by first | (simp [entryFrame, mkF, argsToLocals, Value.category, maxLocals]; done) | rfl
set_option maxRecDepth 65536 in
set_option maxHeartbeats 40000000 in
theorem rm0 (l : Launch) (Z : State) (a0 : Array Value) (hw : ∀ d ∈ tables_1, d.before a0 Z = true) (ws : List Jvm.Cond) (q0 : Int64) (q2 : Int64) (q4 : Int64) (i6 : Int32) (i7 : Int32) (i8 : Int32) (h0 : Heap) (n0 : Nat) (Z0 : n0 ≤ h0.size)  :
    MetFree l x (head1 (Jvm.Cond.code x code maxLocals ret :: ws) room_1) (fun a U => a = #[(.long q0), (.long q2), (.long q4), (.int i6), (.int i7), (.int i8)] ∧ Z.Warmed39 U.vm ∧ U.heap = h0) (fun _ _ _ _ _ => True) (fun _ U o U' => ∃ v L, o = .returned v ∧ Q0 Z q0 q2 q4 i6 i7 i8 h0 n0 v U'.heap L ∧ FrameEnd U o U' L 16 26752) := by
  refine MetFree.of_bodySF (plainFor_of_name pn_0) hisR ?_
  intro p e s m args below meth c s₁ Bd hml0 hP hK
  obtain ⟨rfl, hZ, hh⟩ := hP
  have hnm := (name_of_methodNamed Bd.named Bd.method).1
  have C : own_C p s m c code "com/example/isolith/isolith/history/WriteTableFindPinLaw" Z 35 := ⟨Bd.exec, Bd.bytes, hZ, findClass_of_methodNamed Bd.named, hml0⟩
  have X0 : Stand p l e room_1 s m #[(.long q0), (.long q2), (.long q4), (.int i6), (.int i7), (.int i8)] below meth c s₁ [] 0 0 := Stand.of_body Bd
  have e0 : s₁.heap = h0 := by rw [← hh, Bd.state]; rfl
  have N0 := Fr.nil n0
  show own_E p e below (own_R s below (Q0 Z q0 q2 q4 i6 i7 i8 h0 n0) 16 26752) s₁ (entryFrame m #[(.long q0), (.long q2), (.long q4), (.int i6), (.int i7), (.int i8)] maxLocals)
  rw [ef_0]
  refine own_s1 hw C X0 fun b => ?_
  refine own_s2 hw C X0 fun w1 wa wb => ?_
  refine own_s3 hw C X0 wa wb fun w2' wc' wd' => ?_
  refine own_s4 hw C X0 wc' wd' fun w2 wc wd => ?_
  refine own_s5 hw C X0 fun key2 => ?_
  refine own_s6 hw C X0 fun op1 op2 qs oa ob oc od => ?_
  refine own_s7 hw C X0 fun qv => ?_
  refine own_s8 hw C X0 fun ks qk => ?_
  refine own_newO C X0 (hw _ (List.mem_of_getElem? (i := 2) rfl)) (hw _ (List.mem_of_getElem? (i := 3) rfl)) (hw _ (List.mem_of_getElem? (i := 4) rfl)) e0 (by decide) (by decide) at_209 rfl fun T1_ h1_ a1_ X1_ e1_ g1_ E1_ A1_ D1_ => ?_
  have ga : n0 ≤ a1_ := by rw [g1_]; exact Z0
  have z1 := Nat.le_trans Z0 E1_.1
  have H_slots : Fld Z h1_ a1_ "com/example/isolith/isolith/history/WriteTable" "slots" "[J" (.null) := D1_ (Or.inl (hw _ (List.mem_of_getElem? (i := 13) rfl))) (ty := .array .long) (by decide)
  have H_firstRepeated : Fld Z h1_ a1_ "com/example/isolith/isolith/history/WriteTable" "firstRepeated" "I" (.int 0) := D1_ (Or.inl (hw _ (List.mem_of_getElem? (i := 15) rfl))) (ty := .int) (by decide)
  have H_bound : Fld Z h1_ a1_ "com/example/isolith/isolith/history/WriteTable" "bound" "J" (.long 0) := D1_ (Or.inr (hw _ (List.mem_of_getElem? (i := 22) rfl))) (ty := .long) (by decide)
  refine own_dup C X1_ at_212 rfl rfl ?_
  refine own_lload C X1_ at_213 rfl rfl ?_
  refine own_callI C X1_ 1 [.long b] (hw _ (List.mem_of_getElem? (i := 5) rfl)) rfl (hw _ (List.mem_of_getElem? (i := 6) rfl)) (hw _ (List.mem_of_getElem? (i := 4) rfl)) (hw _ (List.mem_of_getElem? (i := 7) rfl)) (by decide) e1_ (rm1 l Z a0 hw [] a1_ b h1_ n0 z1 A1_ H_slots H_firstRepeated H_bound ga) rfl (by decide) (by decide) rfl (lenOf pd_J rfl) rfl (Nat.le_of_eq rfl) (by decide) (by decide) at_215 rfl (fun _ _ _ q => q.1) fun T2_ L2_ X2_ Q2_ => ?_
  obtain ⟨-, N1q, B1⟩ := Q2_
  have N1 := Fr.app N0 N1q
  have z2 := Nat.le_trans ga (Nat.le_of_lt B1.1.lt)
  refine own_astore (L' := #[_, _, _, _, _, _, _, _, _, _, _, _, _, _, _, _, _, _, _, _, _, _, _, _, _, _, _, _, _, _, _, _, _, _, _]) C X2_ at_218 rfl rfl rfl ?_
  refine own_aload C X2_ at_220 rfl rfl rfl ?_
  refine own_iload C X2_ at_222 rfl rfl ?_
  refine own_iload C X2_ at_224 rfl rfl ?_
  refine own_lload C X2_ at_226 rfl rfl ?_
  refine own_callV C X2_ 0 [.int op1, .int i6, .long w1] (hw _ (List.mem_of_getElem? (i := 23) rfl)) (hw _ (List.mem_of_getElem? (i := 24) rfl)) (hw _ (List.mem_of_getElem? (i := 26) rfl)) (hw _ (List.mem_of_getElem? (i := 25) rfl)) (hw _ (List.mem_of_getElem? (i := 4) rfl)) (hw _ (List.mem_of_getElem? (i := 27) rfl)) B1.1 (by decide) rfl (rm4 l Z a0 hw [] a1_ _ _ op1 i6 w1 T2_.heap n0 z2 B1 ga wb) rfl (by decide) (by decide) rfl (lenOf pd_A rfl) rfl (Nat.le_of_eq rfl) (by decide) (by decide) at_228 rfl (fun _ _ _ q => q.1) fun T3_ L3_ X3_ Q3_ => ?_
  obtain ⟨-, N2q, B2⟩ := Q3_
  have N2 := Fr.app N1 N2q
  have z3 := Nat.le_trans ga (Nat.le_of_lt B2.1.lt)
  refine own_istore (L' := #[_, _, _, _, _, _, _, _, _, _, _, _, _, _, _, _, _, _, _, _, _, _, _, _, _, _, _, _, _, _, _, _, _, _, _]) C X3_ at_231 rfl rfl ?_
  refine own_aload C X3_ at_233 rfl rfl rfl ?_
  refine own_iload C X3_ at_235 rfl rfl ?_
  refine own_iload C X3_ at_237 rfl rfl ?_
  refine own_lload C X3_ at_239 rfl rfl ?_
  refine own_callV C X3_ 0 [.int op2, .int key2, .long w2] (hw _ (List.mem_of_getElem? (i := 23) rfl)) (hw _ (List.mem_of_getElem? (i := 24) rfl)) (hw _ (List.mem_of_getElem? (i := 26) rfl)) (hw _ (List.mem_of_getElem? (i := 25) rfl)) (hw _ (List.mem_of_getElem? (i := 4) rfl)) (hw _ (List.mem_of_getElem? (i := 27) rfl)) B2.1 (by decide) rfl (rm4 l Z a0 hw [] a1_ _ _ op2 key2 w2 T3_.heap n0 z3 B2 ga wd) rfl (by decide) (by decide) rfl (lenOf pd_A rfl) rfl (Nat.le_of_eq rfl) (by decide) (by decide) at_241 rfl (fun _ _ _ q => q.1) fun T4_ L4_ X4_ Q4_ => ?_
  obtain ⟨-, N3q, B3⟩ := Q4_
  have N3 := Fr.app N2 N3q
  have z4 := Nat.le_trans ga (Nat.le_of_lt B3.1.lt)
  refine own_istore (L' := #[_, _, _, _, _, _, _, _, _, _, _, _, _, _, _, _, _, _, _, _, _, _, _, _, _, _, _, _, _, _, _, _, _, _, _]) C X4_ at_244 rfl rfl ?_
  refine own_aload C X4_ at_246 rfl rfl rfl ?_
  refine own_iload C X4_ at_248 rfl rfl ?_
  refine own_lload C X4_ at_250 rfl rfl ?_
  refine own_callV C X4_ 0 [.int qk, .long qv] (hw _ (List.mem_of_getElem? (i := 28) rfl)) (hw _ (List.mem_of_getElem? (i := 29) rfl)) (hw _ (List.mem_of_getElem? (i := 31) rfl)) (hw _ (List.mem_of_getElem? (i := 30) rfl)) (hw _ (List.mem_of_getElem? (i := 4) rfl)) (hw _ (List.mem_of_getElem? (i := 32) rfl)) B3.1 (by decide) rfl (rm5 l Z a0 hw [] a1_ _ _ qk qv T4_.heap n0 z4 B3) rfl (by decide) (by decide) rfl (lenOf pd_F rfl) rfl (Nat.le_of_eq rfl) (by decide) (by decide) at_252 rfl (fun _ _ _ q => q.1) fun T5_ L5_ X5_ Q5_ => ?_
  obtain ⟨-, N4q, H4⟩ := Q5_
  have N4 := Fr.app N3 N4q
  refine own_istore (L' := #[_, _, _, _, _, _, _, _, _, _, _, _, _, _, _, _, _, _, _, _, _, _, _, _, _, _, _, _, _, _, _, _, _, _, _]) C X5_ at_255 rfl rfl ?_
  refine own_lload C X5_ at_257 rfl rfl ?_
  refine own_ldcJ C X5_ (hw _ (List.mem_of_getElem? (i := 33) rfl)) at_259 rfl ?_
  refine own_callS C X5_ 0 [.long b, .long 1073741824] (hw _ (List.mem_of_getElem? (i := 34) rfl)) (hw _ (List.mem_of_getElem? (i := 18) rfl)) (hw _ (List.mem_of_getElem? (i := 19) rfl)) (hw _ (List.mem_of_getElem? (i := 20) rfl)) (by decide) rfl (rm3 l Z a0 hw [] b 1073741824 T5_.heap n0 (by rw [H4]; exact z4)) rfl (by decide) (by decide) rfl (lenOf pd_JJ rfl) rfl (Nat.le_of_eq rfl) (by decide) (by decide) at_262 rfl (fun _ _ _ q => q.1) fun T6_ L6_ X6_ Q6_ => ?_
  obtain ⟨-, N5q, H5⟩ := Q6_
  have N5 := Fr.app N4 N5q
  refine own_lstore (L' := #[_, _, _, _, _, _, _, _, _, _, _, _, _, _, _, _, _, _, _, _, _, _, _, _, _, _, _, _, _, _, _, _, _, _, _]) C X6_ at_265 rfl rfl ?_
  have e1 := own_e1 (own_minL b 1073741824) i6 w1
  have e2 := own_e2 (own_minL b 1073741824) i6 key2 op1 w1 w2 oa ob
  have e3 := own_e3 (own_minL b 1073741824) i6 key2 op1 op2 w1 w2 qk qv oa ob oc od
  rw [e1, e2, e3]
  generalize own_minL b 1073741824 = lim at *
  refine own_f1 hw C X6_ ?_
  refine own_f2 hw C X6_ ?_
  refine own_f3 hw C X6_ ?_
  refine own_f4 hw C X6_ ?_
  refine own_f5 hw C X6_ ?_
  refine own_f6 hw C X6_ ?_
  refine own_iload C X6_ at_425 rfl rfl ?_
  refine own_iload C X6_ at_427 rfl rfl ?_
  refine own_icmpN C X6_ at_429 (teq rfl).2 rfl ?_
  refine own_iload C X6_ at_432 rfl rfl ?_
  refine own_iload C X6_ at_434 rfl rfl ?_
  refine own_icmpN C X6_ at_436 (teq rfl).2 rfl ?_
  refine own_iload C X6_ at_439 rfl rfl ?_
  refine own_iload C X6_ at_441 rfl rfl ?_
  refine own_icmpN C X6_ at_443 (teq rfl).2 rfl ?_
  refine own_iconst C X6_ (1) at_446 rfl rfl ?_
  refine own_goto (pc' := 451) C X6_ at_447 (by decide) (by decide) ?_
  exact own_retN C X6_ Bd.returns (by simp) Bd.notSynchronized (by decide) (by decide) at_451 ⟨rfl, N5⟩
set_option maxRecDepth 65536 in
set_option maxHeartbeats 40000000 in
theorem comes_1 {Post : Tables → Env → Array Value → State → Outcome → State → Prop} (hpost : ∀ tb e args s v u, (limb_1_1.after args s (.returned v) u = true ∧ limb_1_2.after args s (.returned v) u = true ∧ True) → FrameEnd s (.returned v) u (Jvm.fieldLocs frame_1_writes args s ++ Jvm.arrayLocs frame_1_arrays args s ++ Jvm.staticLocs frame_1_statics s) 16 26752 → Post tb e args s (.returned v) u) :
    ArmFor flags0 classFile x code maxLocals ret World_1 tables_1 room_1 Calls_1 rest_1 Pre_1 Post := by
  intro l hfl _ _ p e ha hc hk s m args below hf hA hF happ hP
  obtain ⟨hcalls, hrest, hpre⟩ := hP
  obtain ⟨-, -, -, hnamed, -, -, -, hat⟩ := (Spec.applies_iff hf).mp happ
  obtain ⟨hg, hn⟩ := and_e (Cond.before_iff.mp (show (Jvm.Cond.and given_1 narrow_1).before args s = true from hpre))
  obtain ⟨gc, r0⟩ := and_e hg
  obtain ⟨g0, r1⟩ := and_e r0
  obtain ⟨g1, r2⟩ := and_e r1
  obtain ⟨g2, r3⟩ := and_e r2
  obtain ⟨g3, r4⟩ := and_e r3
  obtain ⟨g4, r5⟩ := and_e r4
  have g5 := r5
  obtain ⟨w0, w1, w2, w3, w4, w5, rfl⟩ : ∃ w0 w1 w2 w3 w4 w5 : Value, args = #[w0, w1, w2, w3, w4, w5] := by
    have hs : args.size = 6 := by simpa [Cond.value, given_1] using gc
    obtain ⟨L⟩ := args
    match L, hs with
    | [w0, w1, w2, w3, w4, w5], _ => exact ⟨w0, w1, w2, w3, w4, w5, rfl⟩
  have hw := fun d (hd : d ∈ tables_1) => atoms_spec (ws := Jvm.Cond.code x code maxLocals ret :: tables_1) hat d (List.mem_cons_of_mem _ hd)
  obtain ⟨i0, ei0⟩ := isL_v g0
  obtain rfl : w0 = (.long i0) := Option.some.inj ei0
  obtain ⟨i1, ei1⟩ := isL_v g1
  obtain rfl : w1 = (.long i1) := Option.some.inj ei1
  obtain ⟨i2, ei2⟩ := isL_v g2
  obtain rfl : w2 = (.long i2) := Option.some.inj ei2
  obtain ⟨i3, ei3⟩ := is_v g3
  obtain rfl : w3 = (.int i3) := Option.some.inj ei3
  obtain ⟨i4, ei4⟩ := is_v g4
  obtain rfl : w4 = (.int i4) := Option.some.inj ei4
  obtain ⟨i5, ei5⟩ := is_v g5
  obtain rfl : w5 = (.int i5) := Option.some.inj ei5
  obtain ⟨n, o, h1, h2, h3, _, L, rfl, ⟨rfl, N⟩, hq⟩ := rm0 l s _ hw tables_1 i0 i1 i2 i3 i4 i5 s.heap s.heap.size (Nat.le_refl _) p e ha hc hk s m _ below hf ((Spec.applies_iff_loose hf).mp happ).1 ⟨rfl, State.Warmed39.refl s, rfl⟩ trivial
  refine ⟨n, _, h1, h2, h3, hpost _ _ _ _ _ _ ⟨Cond.after_iff.mpr rfl, Cond.after_iff.mpr (eq_i res_at (Term.int_eval (1)) rfl), trivial⟩ ⟨hq.1, hq.2.1, (hq.2.2.sift fun y hy => Or.inr (N y hy)).mono (by decide) (by decide)⟩⟩
theorem main_1_1 : Claimed_1_1 := comes_1 fun _ _ _ _ _ _ h hF => ⟨h.1, hF⟩
theorem main_1_2 : Claimed_1_2 := comes_1 fun _ _ _ _ _ _ h hF => ⟨h.2.1, hF⟩
end Jvm.Pilot.@@N@@
namespace Jvm.Pilot.@@N@@
open Jvm Jvm.ClassFile Sem Op Lib Jvm.Free Jvm.Stand Jvm.Pilot.@@N@@.Jvm.D
/-! MADE BY PROGRAM (witnessworld.py) out of the Statement's table words and the real class files: 19 classes; the members and pool entries that the words name. The judged class is class 1, her method 1. -/
namespace start1
open Jvm.ClassFile
def u (s : String) : CpInfo := .utf8 (stringToUtf16 s)
/-- a pool by its gaps: so many unusable entries, then the entry; so many at the end -/
def gap : Nat → List CpInfo → List CpInfo
  | 0, r => r
  | n + 1, r => .unusable :: gap n r
def poolList (es : List (Nat × CpInfo)) (last : Nat) : List CpInfo := es.foldr (fun e r => gap e.1 (e.2 :: r)) (gap last [])
def pool (es : List (Nat × CpInfo)) (last : Nat) : Array CpInfo := ⟨poolList es last⟩
def fileOf (pool : Array CpInfo) (this : Nat) (attrs : Array Attribute := #[]) (ms : Array MethodInfo := #[]) (fl : Nat := 33) (sup : Nat := 0) (ifs : Array Nat := #[]) (fds : Array FieldInfo := #[]) : ClassFile where
  minorVersion := 0
  majorVersion := 65
  constantPool := pool
  accessFlags := fl
  thisClass := this
  superClass := sup
  interfaces := ifs
  fields := fds
  methods := ms
  attributes := attrs
def plain (name : String) (sup : Option ClassId) : Class where
  name := name
  kind := .ordinary
  loader := none
  accessFlags := 33
  super := sup
  interfaces := #[]
  cf := none
  fields := #[]
  methods := #[]
  instanceTypes := #[]
  staticTypes := #[]
  resolved := #[]
  callSites := []
  init := .initialized
  statics := none
  mirror := none

def pool0 : Array CpInfo := pool [(5, u "<init>"), (0, u "()V"), (1, .class_ 10), (1, u "java/lang/Object")] 113

def k0c0 : Code := { maxStack := 0, maxLocals := 1, code := object_method_1_code, exceptionTable := #[], attributes := #[] }
def k0m0 : Method := { name := "<init>", desc := "()V", sig := { parameters := [], returnType := none }, accessFlags := 1, code := some k0c0 }
/-- java/lang/Object -/
def k0 : Class := { plain "java/lang/Object" none with
  accessFlags := 33
  interfaces := #[]
  cf := some (fileOf pool0 8 #[] #[{ accessFlags := 1, nameIndex := 5, descriptorIndex := 6, attributes := #[] }] 33 0 #[] #[])
  fields := #[]
  methods := #[k0m0]
  instanceTypes := #[]
  staticTypes := #[]
  resolved := Array.replicate 124 none
  statics := none }

def pool1 : Array CpInfo := pool [(2, .class_ 4), (1, u "java/lang/Object"), (0, u "<init>"), (0, u "()V"), (0, .long 8191), (1, .integer 1073741823), (2, .integer 2147483648), (0, .class_ 14), (0, u "com/example/isolith/isolith/history/WriteTable"), (0, .methodref 13 16), (0, .nameAndType 5 17), (0, u "(J)V"), (0, .methodref 13 19), (0, .nameAndType 20 21), (0, u "add"), (0, u "(IIJ)Z"), (0, .methodref 13 23), (0, .nameAndType 24 25), (0, u "find"), (0, u "(IJ)I"), (0, .long 1073741824), (1, .methodref 29 30), (0, .class_ 31), (0, .nameAndType 32 33), (0, u "java/lang/Math"), (0, u "min"), (0, u "(JJ)J"), (0, .class_ 35), (0, u "com/example/isolith/isolith/history/WriteTableFindPinLaw"), (2, u "law"), (0, u "(JJJIII)Z")] 3

def k1m0 : Method := { name := "<init>", desc := "()V", sig := { parameters := [], returnType := none }, accessFlags := 1, code := none }
def k1c1 : Code := { maxStack := 5, maxLocals := 35, code := code, exceptionTable := #[], attributes := #[] }
def k1m1 : Method := { name := "law", desc := "(JJJIII)Z", sig := { parameters := [.long, .long, .long, .int, .int, .int], returnType := some .boolean }, accessFlags := 9, code := some k1c1 }
/-- com/example/isolith/isolith/history/WriteTableFindPinLaw -/
def k1 : Class := { plain "com/example/isolith/isolith/history/WriteTableFindPinLaw" (some 0) with
  accessFlags := 49
  interfaces := #[]
  cf := some (fileOf pool1 34 #[] #[{ accessFlags := 1, nameIndex := 5, descriptorIndex := 6, attributes := #[] }, { accessFlags := 9, nameIndex := 38, descriptorIndex := 39, attributes := #[] }] 49 2 #[] #[])
  fields := #[]
  methods := #[k1m0, k1m1]
  instanceTypes := #[]
  staticTypes := #[]
  resolved := Array.replicate 43 none
  statics := none }

def pool2 : Array CpInfo := pool [(1, .methodref 2 3), (0, .class_ 4), (0, .nameAndType 5 6), (0, u "java/lang/Object"), (0, u "<init>"), (0, u "()V"), (0, .class_ 8), (0, u "com/example/isolith/isolith/history/WriteTable"), (0, .fieldref 7 10), (0, .nameAndType 11 12), (0, u "slots"), (0, u "[J"), (0, .fieldref 7 14), (0, .nameAndType 15 16), (0, u "firstRepeated"), (0, u "I"), (0, .long 1073741824), (1, .methodref 20 21), (0, .class_ 22), (0, .nameAndType 23 24), (0, u "java/lang/Math"), (0, u "min"), (0, u "(JJ)J"), (0, .fieldref 7 26), (0, .nameAndType 27 28), (0, u "bound"), (0, u "J"), (0, .methodref 30 31), (0, .class_ 32), (0, .nameAndType 33 34), (0, u "java/lang/Integer"), (0, u "highestOneBit"), (0, u "(I)I"), (0, .methodref 36 37), (0, .class_ 38), (0, .nameAndType 39 40), (0, u "java/util/Arrays"), (0, u "copyOf"), (0, u "([JI)[J"), (0, u "MIN_LENGTH"), (2, u "MAX_BOUND"), (0, u "(J)V"), (2, u "add"), (0, u "(IIJ)Z"), (1, u "find"), (0, u "(IJ)I")] 3

def k2c0 : Code := { maxStack := 5, maxLocals := 3, code := prog_172_method_1_code, exceptionTable := #[], attributes := #[] }
def k2m0 : Method := { name := "<init>", desc := "(J)V", sig := { parameters := [.long], returnType := none }, accessFlags := 0, code := some k2c0 }
def k2c1 : Code := { maxStack := 6, maxLocals := 8, code := prog_172_method_2_code, exceptionTable := #[], attributes := #[] }
def k2m1 : Method := { name := "add", desc := "(IIJ)Z", sig := { parameters := [.int, .int, .long], returnType := some .boolean }, accessFlags := 0, code := some k2c1 }
def k2c2 : Code := { maxStack := 4, maxLocals := 6, code := prog_172_method_3_code, exceptionTable := #[], attributes := #[] }
def k2m2 : Method := { name := "find", desc := "(IJ)I", sig := { parameters := [.int, .long], returnType := some .int }, accessFlags := 0, code := some k2c2 }
/-- com/example/isolith/isolith/history/WriteTable -/
def k2 : Class := { plain "com/example/isolith/isolith/history/WriteTable" (some 0) with
  accessFlags := 48
  interfaces := #[]
  cf := some (fileOf pool2 7 #[] #[{ accessFlags := 0, nameIndex := 5, descriptorIndex := 45, attributes := #[] }, { accessFlags := 0, nameIndex := 48, descriptorIndex := 49, attributes := #[] }, { accessFlags := 0, nameIndex := 51, descriptorIndex := 52, attributes := #[] }] 48 2 #[] #[{ accessFlags := 26, nameIndex := 41, descriptorIndex := 16, attributes := #[] }, { accessFlags := 26, nameIndex := 44, descriptorIndex := 28, attributes := #[] }, { accessFlags := 18, nameIndex := 27, descriptorIndex := 28, attributes := #[] }, { accessFlags := 2, nameIndex := 11, descriptorIndex := 12, attributes := #[] }, { accessFlags := 2, nameIndex := 15, descriptorIndex := 16, attributes := #[] }])
  fields := #[{ name := "MIN_LENGTH", type := .int, accessFlags := 26, slot := 0, constantValue := 0 }, { name := "MAX_BOUND", type := .long, accessFlags := 26, slot := 1, constantValue := 0 }, { name := "bound", type := .long, accessFlags := 18, slot := 0, constantValue := 0 }, { name := "slots", type := (.array .long), accessFlags := 2, slot := 1, constantValue := 0 }, { name := "firstRepeated", type := .int, accessFlags := 2, slot := 2, constantValue := 0 }]
  methods := #[k2m0, k2m1, k2m2]
  instanceTypes := #[.long, (.array .long), .int]
  staticTypes := #[.int, .long]
  resolved := Array.replicate 56 none
  statics := none }

def pool3 : Array CpInfo := pool [(1, .class_ 2), (0, u "java/lang/Math"), (1, .class_ 6), (1, u "java/lang/Object"), (0, u "<init>"), (0, u "()V"), (89, .class_ 100), (1, u "java/lang/Math$RandomNumberGeneratorHolder"), (20, u "(JJ)J"), (50, u "negativeZeroFloatBits"), (0, u "J"), (2, u "negativeZeroDoubleBits"), (24, u "min"), (43, u "$assertionsDisabled"), (0, u "Z"), (88, u "(II)I"), (2, u "twoToTheDoubleScaleDown"), (0, u "D"), (4, u "twoToTheDoubleScaleUp"), (9, u "E"), (3, u "PI"), (2, u "TAU"), (2, u "DEGREES_TO_RADIANS"), (0, u "RADIANS_TO_DEGREES")] 94

def k3m0 : Method := { name := "<init>", desc := "()V", sig := { parameters := [], returnType := none }, accessFlags := 2, code := none }
def k3c1 : Code := { maxStack := 2, maxLocals := 2, code := jdk_29_method_69_code, exceptionTable := #[], attributes := #[] }
def k3m1 : Method := { name := "min", desc := "(II)I", sig := { parameters := [.int, .int], returnType := some .int }, accessFlags := 9, code := some k3c1 }
def k3c2 : Code := { maxStack := 4, maxLocals := 4, code := jdk_29_method_70_code, exceptionTable := #[], attributes := #[] }
def k3m2 : Method := { name := "min", desc := "(JJ)J", sig := { parameters := [.long, .long], returnType := some .long }, accessFlags := 9, code := some k3c2 }
/-- java/lang/Math -/
def k3 : Class := { plain "java/lang/Math" (some 0) with
  accessFlags := 49
  interfaces := #[]
  cf := some (fileOf pool3 1 #[.nestMembers #[98]] #[{ accessFlags := 2, nameIndex := 7, descriptorIndex := 8, attributes := #[] }, { accessFlags := 9, nameIndex := 201, descriptorIndex := 335, attributes := #[] }, { accessFlags := 9, nameIndex := 201, descriptorIndex := 121, attributes := #[] }] 49 4 #[] #[{ accessFlags := 25, nameIndex := 354, descriptorIndex := 339, attributes := #[] }, { accessFlags := 25, nameIndex := 358, descriptorIndex := 339, attributes := #[] }, { accessFlags := 25, nameIndex := 361, descriptorIndex := 339, attributes := #[] }, { accessFlags := 26, nameIndex := 364, descriptorIndex := 339, attributes := #[] }, { accessFlags := 26, nameIndex := 365, descriptorIndex := 339, attributes := #[] }, { accessFlags := 26, nameIndex := 172, descriptorIndex := 173, attributes := #[] }, { accessFlags := 26, nameIndex := 176, descriptorIndex := 173, attributes := #[] }, { accessFlags := 8, nameIndex := 344, descriptorIndex := 339, attributes := #[] }, { accessFlags := 8, nameIndex := 338, descriptorIndex := 339, attributes := #[] }, { accessFlags := 4120, nameIndex := 245, descriptorIndex := 246, attributes := #[] }])
  fields := #[{ name := "E", type := .double, accessFlags := 25, slot := 0, constantValue := 0 }, { name := "PI", type := .double, accessFlags := 25, slot := 1, constantValue := 0 }, { name := "TAU", type := .double, accessFlags := 25, slot := 2, constantValue := 0 }, { name := "DEGREES_TO_RADIANS", type := .double, accessFlags := 26, slot := 3, constantValue := 0 }, { name := "RADIANS_TO_DEGREES", type := .double, accessFlags := 26, slot := 4, constantValue := 0 }, { name := "negativeZeroFloatBits", type := .long, accessFlags := 26, slot := 5, constantValue := 0 }, { name := "negativeZeroDoubleBits", type := .long, accessFlags := 26, slot := 6, constantValue := 0 }, { name := "twoToTheDoubleScaleUp", type := .double, accessFlags := 8, slot := 7, constantValue := 0 }, { name := "twoToTheDoubleScaleDown", type := .double, accessFlags := 8, slot := 8, constantValue := 0 }, { name := "$assertionsDisabled", type := .boolean, accessFlags := 4120, slot := 9, constantValue := 0 }]
  methods := #[k3m0, k3m1, k3m2]
  instanceTypes := #[]
  staticTypes := #[.double, .double, .double, .double, .double, .long, .long, .double, .double, .boolean]
  resolved := Array.replicate 460 none
  statics := none }

def pool4 : Array CpInfo := pool [(1, .class_ 2), (0, u "java/io/Serializable"), (0, .class_ 4), (0, u "java/lang/Object")] 2

/-- java/io/Serializable -/
def k4 : Class := { plain "java/io/Serializable" (some 0) with
  accessFlags := 1537
  interfaces := #[]
  cf := some (fileOf pool4 1 #[] #[] 1537 3 #[] #[])
  fields := #[]
  methods := #[]
  instanceTypes := #[]
  staticTypes := #[]
  resolved := Array.replicate 7 none
  statics := none }

def pool5 : Array CpInfo := pool [(2, .class_ 4), (1, u "java/lang/Object"), (0, u "<init>"), (0, u "()V"), (1, .class_ 10), (1, u "java/lang/Number"), (2, .class_ 14), (0, u "java/io/Serializable"), (0, u "serialVersionUID"), (0, u "J")] 20

def k5m0 : Method := { name := "<init>", desc := "()V", sig := { parameters := [], returnType := none }, accessFlags := 1, code := none }
/-- java/lang/Number -/
def k5 : Class := { plain "java/lang/Number" (some 0) with
  accessFlags := 1057
  interfaces := #[4]
  cf := some (fileOf pool5 8 #[] #[{ accessFlags := 1, nameIndex := 5, descriptorIndex := 6, attributes := #[] }] 1057 2 #[13] #[{ accessFlags := 26, nameIndex := 15, descriptorIndex := 16, attributes := #[] }])
  fields := #[{ name := "serialVersionUID", type := .long, accessFlags := 26, slot := 0, constantValue := 0 }]
  methods := #[k5m0]
  instanceTypes := #[]
  staticTypes := #[.long]
  resolved := Array.replicate 37 none
  statics := none }

def pool6 : Array CpInfo := pool [(1, .class_ 2), (0, u "java/lang/Comparable"), (0, .class_ 4), (0, u "java/lang/Object")] 7

/-- java/lang/Comparable -/
def k6 : Class := { plain "java/lang/Comparable" (some 0) with
  accessFlags := 1537
  interfaces := #[]
  cf := some (fileOf pool6 1 #[] #[] 1537 3 #[] #[])
  fields := #[]
  methods := #[]
  instanceTypes := #[]
  staticTypes := #[]
  resolved := Array.replicate 12 none
  statics := none }

def pool7 : Array CpInfo := pool [(1, .class_ 2), (0, u "java/lang/constant/Constable"), (0, .class_ 4), (0, u "java/lang/Object")] 6

/-- java/lang/constant/Constable -/
def k7 : Class := { plain "java/lang/constant/Constable" (some 0) with
  accessFlags := 1537
  interfaces := #[]
  cf := some (fileOf pool7 1 #[] #[] 1537 3 #[] #[])
  fields := #[]
  methods := #[]
  instanceTypes := #[]
  staticTypes := #[]
  resolved := Array.replicate 11 none
  statics := none }

def pool8 : Array CpInfo := pool [(1, .class_ 2), (0, u "java/lang/constant/ConstantDesc"), (0, .class_ 4), (0, u "java/lang/Object")] 32

/-- java/lang/constant/ConstantDesc -/
def k8 : Class := { plain "java/lang/constant/ConstantDesc" (some 0) with
  accessFlags := 1537
  interfaces := #[]
  cf := some (fileOf pool8 1 #[] #[] 1537 3 #[] #[])
  fields := #[]
  methods := #[]
  instanceTypes := #[]
  staticTypes := #[]
  resolved := Array.replicate 37 none
  statics := none }

def pool9 : Array CpInfo := pool [(1, .class_ 2), (0, u "java/lang/Integer"), (16, u "digits"), (0, u "[C"), (30, .methodref 1 52), (0, .nameAndType 53 54), (0, u "numberOfLeadingZeros"), (0, u "(I)I"), (30, u "DigitOnes"), (0, u "[B"), (2, u "DigitTens"), (37, .integer 2147483648), (61, .class_ 190), (0, u "java/lang/Integer$IntegerCache"), (3, u "I"), (8, .class_ 204), (0, u "java/lang/Number"), (2, u "value"), (56, .integer 65536), (37, u "TYPE"), (0, u "Ljava/lang/Class;"), (0, .class_ 305), (0, u "java/lang/Comparable"), (0, .class_ 307), (0, u "java/lang/constant/Constable"), (0, .class_ 309), (0, u "java/lang/constant/ConstantDesc"), (0, u "MIN_VALUE"), (1, u "MAX_VALUE"), (3, u "SIZE"), (1, u "BYTES"), (1, u "serialVersionUID"), (0, u "J"), (81, u "highestOneBit")] 49

def k9c0 : Code := { maxStack := 3, maxLocals := 1, code := jdk_33_method_45_code, exceptionTable := #[], attributes := #[] }
def k9m0 : Method := { name := "highestOneBit", desc := "(I)I", sig := { parameters := [.int], returnType := some .int }, accessFlags := 9, code := some k9c0 }
def k9c1 : Code := { maxStack := 3, maxLocals := 2, code := jdk_33_method_47_code, exceptionTable := #[], attributes := #[] }
def k9m1 : Method := { name := "numberOfLeadingZeros", desc := "(I)I", sig := { parameters := [.int], returnType := some .int }, accessFlags := 9, code := some k9c1 }
/-- java/lang/Integer -/
def k9 : Class := { plain "java/lang/Integer" (some 5) with
  accessFlags := 49
  interfaces := #[6, 7, 8]
  cf := some (fileOf pool9 1 #[.nestMembers #[189]] #[{ accessFlags := 9, nameIndex := 403, descriptorIndex := 54, attributes := #[] }, { accessFlags := 9, nameIndex := 53, descriptorIndex := 54, attributes := #[] }] 49 203 #[304, 306, 308] #[{ accessFlags := 25, nameIndex := 310, descriptorIndex := 194, attributes := #[] }, { accessFlags := 25, nameIndex := 312, descriptorIndex := 194, attributes := #[] }, { accessFlags := 25, nameIndex := 302, descriptorIndex := 303, attributes := #[] }, { accessFlags := 24, nameIndex := 19, descriptorIndex := 20, attributes := #[] }, { accessFlags := 24, nameIndex := 89, descriptorIndex := 86, attributes := #[] }, { accessFlags := 24, nameIndex := 85, descriptorIndex := 86, attributes := #[] }, { accessFlags := 18, nameIndex := 207, descriptorIndex := 194, attributes := #[] }, { accessFlags := 25, nameIndex := 316, descriptorIndex := 194, attributes := #[] }, { accessFlags := 25, nameIndex := 318, descriptorIndex := 194, attributes := #[] }, { accessFlags := 26, nameIndex := 320, descriptorIndex := 321, attributes := #[] }])
  fields := #[{ name := "MIN_VALUE", type := .int, accessFlags := 25, slot := 0, constantValue := 0 }, { name := "MAX_VALUE", type := .int, accessFlags := 25, slot := 1, constantValue := 0 }, { name := "TYPE", type := (.object "java/lang/Class"), accessFlags := 25, slot := 2, constantValue := 0 }, { name := "digits", type := (.array .char), accessFlags := 24, slot := 3, constantValue := 0 }, { name := "DigitTens", type := (.array .byte), accessFlags := 24, slot := 4, constantValue := 0 }, { name := "DigitOnes", type := (.array .byte), accessFlags := 24, slot := 5, constantValue := 0 }, { name := "value", type := .int, accessFlags := 18, slot := 0, constantValue := 0 }, { name := "SIZE", type := .int, accessFlags := 25, slot := 6, constantValue := 0 }, { name := "BYTES", type := .int, accessFlags := 25, slot := 7, constantValue := 0 }, { name := "serialVersionUID", type := .long, accessFlags := 26, slot := 8, constantValue := 0 }]
  methods := #[k9m0, k9m1]
  instanceTypes := #[.int]
  staticTypes := #[.int, .int, (.object "java/lang/Class"), (.array .char), (.array .byte), (.array .byte), .int, .int, .long]
  resolved := Array.replicate 453 none
  statics := none }

def pool10 : Array CpInfo := pool [(2, .class_ 4), (1, u "java/lang/Object"), (0, u "<init>"), (0, u "()V"), (7, .class_ 16), (1, u "java/util/Arrays"), (57, .class_ 76), (1, u "java/util/Arrays$NaturalOrder"), (36, .class_ 115), (1, u "java/util/Arrays$LegacyMergeSort"), (1, u "Z"), (32, .methodref 151 152), (0, .class_ 153), (0, .nameAndType 154 155), (0, u "java/lang/System"), (0, u "arraycopy"), (0, u "(Ljava/lang/Object;ILjava/lang/Object;II)V"), (146, u "copyOf"), (1, .methodref 305 306), (0, .class_ 307), (0, .nameAndType 308 309), (0, u "java/lang/Math"), (0, u "min"), (0, u "(II)I"), (65, .class_ 376), (0, u "java/util/Arrays$ArrayList"), (68, u "$assertionsDisabled"), (269, u "MIN_ARRAY_SORT_GRAN"), (0, u "I"), (2, u "INSERTIONSORT_THRESHOLD"), (152, u "([JI)[J"), (102, .class_ 976), (0, u "java/util/Arrays$ArrayItr")] 52

def k10m0 : Method := { name := "<init>", desc := "()V", sig := { parameters := [], returnType := none }, accessFlags := 2, code := none }
def k10c1 : Code := { maxStack := 6, maxLocals := 3, code := jdk_65_method_124_code, exceptionTable := #[], attributes := #[] }
def k10m1 : Method := { name := "copyOf", desc := "([JI)[J", sig := { parameters := [(.array .long), .int], returnType := some (.array .long) }, accessFlags := 9, code := some k10c1 }
/-- java/util/Arrays -/
def k10 : Class := { plain "java/util/Arrays" (some 0) with
  accessFlags := 49
  interfaces := #[]
  cf := some (fileOf pool10 14 #[.nestMembers #[975, 375, 113, 74]] #[{ accessFlags := 2, nameIndex := 5, descriptorIndex := 6, attributes := #[] }, { accessFlags := 9, nameIndex := 302, descriptorIndex := 872, attributes := #[] }] 49 2 #[] #[{ accessFlags := 26, nameIndex := 715, descriptorIndex := 716, attributes := #[] }, { accessFlags := 26, nameIndex := 719, descriptorIndex := 716, attributes := #[] }, { accessFlags := 4120, nameIndex := 445, descriptorIndex := 117, attributes := #[] }])
  fields := #[{ name := "MIN_ARRAY_SORT_GRAN", type := .int, accessFlags := 26, slot := 0, constantValue := 0 }, { name := "INSERTIONSORT_THRESHOLD", type := .int, accessFlags := 26, slot := 1, constantValue := 0 }, { name := "$assertionsDisabled", type := .boolean, accessFlags := 4120, slot := 2, constantValue := 0 }]
  methods := #[k10m0, k10m1]
  instanceTypes := #[]
  staticTypes := #[.int, .int, .boolean]
  resolved := Array.replicate 1029 none
  statics := none }

def pool11 : Array CpInfo := pool [(2, .class_ 4), (1, u "java/lang/Object"), (0, u "<init>"), (0, u "()V"), (1, .class_ 10), (1, u "java/lang/System"), (0, u "allowSecurityManager"), (0, u "I"), (16, u "cons"), (0, u "Ljava/io/Console;"), (77, .class_ 110), (1, u "java/lang/System$CallersHolder"), (43, u "initialErrStream"), (0, u "Ljava/io/PrintStream;"), (19, u "security"), (0, u "Ljava/lang/SecurityManager;"), (31, .class_ 209), (0, u "java/lang/System$1"), (7, u "props"), (0, u "Ljava/util/Properties;"), (2, u "lineSeparator"), (0, u "Ljava/lang/String;"), (96, .class_ 321), (1, u "java/lang/System$LoggerFinder"), (5, .class_ 328), (0, u "java/lang/System$Logger"), (67, u "err"), (2, u "out"), (91, u "notSupportedJnuEncoding"), (15, u "in"), (17, u "initialIn"), (0, u "Ljava/io/InputStream;"), (35, u "bootLayer"), (0, u "Ljava/lang/ModuleLayer;"), (99, .class_ 664), (0, u "java/lang/System$2"), (9, u "NEVER"), (2, u "MAYBE"), (49, u "arraycopy"), (0, u "(Ljava/lang/Object;ILjava/lang/Object;II)V"), (72, .class_ 802), (0, u "java/lang/System$Logger$Level")] 31

def k11m0 : Method := { name := "<init>", desc := "()V", sig := { parameters := [], returnType := none }, accessFlags := 2, code := none }
def k11m1 : Method := { name := "arraycopy", desc := "(Ljava/lang/Object;ILjava/lang/Object;II)V", sig := { parameters := [(.object "java/lang/Object"), .int, (.object "java/lang/Object"), .int, .int], returnType := none }, accessFlags := 265, code := none }
/-- java/lang/System -/
def k11 : Class := { plain "java/lang/System" (some 0) with
  accessFlags := 49
  interfaces := #[]
  cf := some (fileOf pool11 8 #[.nestMembers #[319, 327, 801, 108, 663, 208]] #[{ accessFlags := 2, nameIndex := 5, descriptorIndex := 6, attributes := #[] }, { accessFlags := 265, nameIndex := 727, descriptorIndex := 728, attributes := #[] }] 49 2 #[] #[{ accessFlags := 25, nameIndex := 507, descriptorIndex := 526, attributes := #[] }, { accessFlags := 25, nameIndex := 399, descriptorIndex := 155, attributes := #[] }, { accessFlags := 25, nameIndex := 396, descriptorIndex := 155, attributes := #[] }, { accessFlags := 10, nameIndex := 525, descriptorIndex := 526, attributes := #[] }, { accessFlags := 26, nameIndex := 674, descriptorIndex := 12, attributes := #[] }, { accessFlags := 26, nameIndex := 677, descriptorIndex := 12, attributes := #[] }, { accessFlags := 10, nameIndex := 11, descriptorIndex := 12, attributes := #[] }, { accessFlags := 74, nameIndex := 175, descriptorIndex := 176, attributes := #[] }, { accessFlags := 10, nameIndex := 491, descriptorIndex := 222, attributes := #[] }, { accessFlags := 74, nameIndex := 29, descriptorIndex := 30, attributes := #[] }, { accessFlags := 74, nameIndex := 154, descriptorIndex := 155, attributes := #[] }, { accessFlags := 10, nameIndex := 217, descriptorIndex := 218, attributes := #[] }, { accessFlags := 10, nameIndex := 221, descriptorIndex := 222, attributes := #[] }, { accessFlags := 8, nameIndex := 562, descriptorIndex := 563, attributes := #[] }])
  fields := #[{ name := "in", type := (.object "java/io/InputStream"), accessFlags := 25, slot := 0, constantValue := 0 }, { name := "out", type := (.object "java/io/PrintStream"), accessFlags := 25, slot := 1, constantValue := 0 }, { name := "err", type := (.object "java/io/PrintStream"), accessFlags := 25, slot := 2, constantValue := 0 }, { name := "initialIn", type := (.object "java/io/InputStream"), accessFlags := 10, slot := 3, constantValue := 0 }, { name := "NEVER", type := .int, accessFlags := 26, slot := 4, constantValue := 0 }, { name := "MAYBE", type := .int, accessFlags := 26, slot := 5, constantValue := 0 }, { name := "allowSecurityManager", type := .int, accessFlags := 10, slot := 6, constantValue := 0 }, { name := "security", type := (.object "java/lang/SecurityManager"), accessFlags := 74, slot := 7, constantValue := 0 }, { name := "notSupportedJnuEncoding", type := (.object "java/lang/String"), accessFlags := 10, slot := 8, constantValue := 0 }, { name := "cons", type := (.object "java/io/Console"), accessFlags := 74, slot := 9, constantValue := 0 }, { name := "initialErrStream", type := (.object "java/io/PrintStream"), accessFlags := 74, slot := 10, constantValue := 0 }, { name := "props", type := (.object "java/util/Properties"), accessFlags := 10, slot := 11, constantValue := 0 }, { name := "lineSeparator", type := (.object "java/lang/String"), accessFlags := 10, slot := 12, constantValue := 0 }, { name := "bootLayer", type := (.object "java/lang/ModuleLayer"), accessFlags := 8, slot := 13, constantValue := 0 }]
  methods := #[k11m0, k11m1]
  instanceTypes := #[]
  staticTypes := #[(.object "java/io/InputStream"), (.object "java/io/PrintStream"), (.object "java/io/PrintStream"), (.object "java/io/InputStream"), .int, .int, .int, (.object "java/lang/SecurityManager"), (.object "java/lang/String"), (.object "java/io/Console"), (.object "java/io/PrintStream"), (.object "java/util/Properties"), (.object "java/lang/String"), (.object "java/lang/ModuleLayer")]
  resolved := Array.replicate 834 none
  statics := none }

def pool12 : Array CpInfo := pool [(1, u "java/lang/Cloneable"), (0, .class_ 1), (0, u "java/lang/Object"), (0, .class_ 3)] 3

/-- java/lang/Cloneable -/
def k12 : Class := { plain "java/lang/Cloneable" (some 0) with
  accessFlags := 1537
  interfaces := #[]
  cf := some (fileOf pool12 2 #[] #[] 1537 4 #[] #[])
  fields := #[]
  methods := #[]
  instanceTypes := #[]
  staticTypes := #[]
  resolved := Array.replicate 8 none
  statics := none }

/-- the primitive byte -/
def k13 : Class := { plain "byte" none with kind := .primitive 'B', accessFlags := 0x411 }
/-- [B -/
def k14 : Class := { plain "[B" (some 0) with kind := .array 13 .byte, interfaces := #[12, 4], accessFlags := 1041 }

/-- the primitive int -/
def k15 : Class := { plain "int" none with kind := .primitive 'I', accessFlags := 0x411 }
/-- [I -/
def k16 : Class := { plain "[I" (some 0) with kind := .array 15 .int, interfaces := #[12, 4], accessFlags := 1041 }

/-- the primitive long -/
def k17 : Class := { plain "long" none with kind := .primitive 'J', accessFlags := 0x411 }
/-- [J -/
def k18 : Class := { plain "[J" (some 0) with kind := .array 17 .long, interfaces := #[12, 4], accessFlags := 1041 }

def heap : Heap := #[]
def classes : Array Class := #[k0, k1, k2, k3, k4, k5, k6, k7, k8, k9, k10, k11, k12, k13, k14, k15, k16, k17, k18]
def interned : List (Array UInt16 × Addr) := []
def slotsUsed : Nat := 0
def theMethod : MethodId := ⟨1, 1⟩
def args0 : Array Value := #[.long 5, .long 77, .long 99, .int 3, .int 4, .int 5]
def aboutOver (below : List Frame) : State where
  vm := { classes := classes, interned := interned.toArray }
  heap := heap
  slotsUsed := slotsUsed
  threads := #[{ frames := .invoking theMethod args0 :: below }]
def below0 : List Frame := [.native { method := ⟨0, 0⟩, args := #[] }]
def about1 : State := aboutOver below0
def p0 : Program := .bare "" "" ""
def e0 : Env := launch0.env 0 0 0
theorem w_frames : about1.frames = Frame.invoking theMethod args0 :: below0 := rfl
set_option maxRecDepth 65536 in
theorem w_args : argsFit about1.vm theMethod args0 = true := by decide +kernel
set_option maxRecDepth 65536 in
theorem w_heap : heapFits about1 = true := by decide +kernel
set_option maxRecDepth 65536 in
theorem w_runnable : about1.curStatus? = some .runnable := by decide +kernel
set_option maxRecDepth 65536 in
theorem w_alone : about1.alone = true := by decide +kernel
set_option maxRecDepth 65536 in
theorem w_named : about1.methodNamed? x = some theMethod := by decide +kernel
set_option maxRecDepth 65536 in
theorem w_hears : about1.hears theMethod below0 = true := by decide +kernel
set_option maxRecDepth 65536 in
theorem w_ripe : about1.ripe theMethod args0 below0 = true := by decide +kernel
theorem w_running : about1.status = .running := rfl
set_option maxRecDepth 65536 in
theorem w_room : about1.hasRoom e0.platform room_1 = true :=
  launch0.hasRoom_least _ room_1 (by decide +kernel) (by decide +kernel) (by decide +kernel) (by decide +kernel) (by decide +kernel) (by decide +kernel)
theorem allAtoms_all (ts : List Jvm.Cond) (a : Array Jvm.Value) (st : Jvm.State) : (allAtoms ts).before a st = ts.all (fun c => c.before a st) := by
  induction ts with
  | nil => rfl
  | cons c t ih =>
    show (Jvm.Cond.and c (allAtoms t)).before a st = _
    rw [Jvm.Cond.before_and, ih, List.all_cons]
def words1 : List Jvm.Cond := Jvm.Cond.code x code maxLocals ret :: tables_1
/-- a 'code' word, met by the world's own term for the bytes: nothing is compared byte by byte -/
theorem code_word {y : MethodName} {bytes : ByteArray} {mx : Nat} {rt : Option FieldType} {a : Array Value} {s : State} {m : MethodId} {meth : Method} {c : Code} (h1 : s.methodNamed? y = some m) (h2 : s.vm.method? m = some meth) (h3 : meth.code = some c) (h4 : c.code = bytes)
    (h5 : (c.maxLocals == mx && c.exceptionTable.isEmpty && decide (c.maxStack ≤ mostOperands) && decide (meth.sig.returnType = rt) && !meth.locks && decide (parseMethodDescriptor y.desc = some meth.sig)) = true) : (Jvm.Cond.code y bytes mx rt).before a s = true := by
  simp only [Bool.and_eq_true, beq_iff_eq, Bool.not_eq_true', decide_eq_true_eq] at h5
  obtain ⟨⟨⟨⟨⟨g1, g2⟩, g3⟩, g4⟩, g5⟩, g6⟩ := h5
  simp [Cond.before, Cond.holds, Cond.value, h1, h2, h3, h4, g1, g2, g3, g4, g5, g6]
def isCode : Jvm.Cond → Bool
  | .code _ _ _ _ => true
  | _ => false
theorem all_split {L : List Jvm.Cond} {P : Jvm.Cond → Bool} (h1 : L.all (fun c => isCode c || P c) = true) (h2 : ∀ c ∈ L.filter isCode, P c = true) : L.all P = true := by
  refine List.all_eq_true.mpr fun c hc => ?_
  have h := List.all_eq_true.mp h1 c hc
  rcases Bool.eq_false_or_eq_true (isCode c) with hi | hi
  · exact h2 c (List.mem_filter.mpr ⟨hc, hi⟩)
  · simpa [hi] using h
set_option maxRecDepth 65536 in
theorem w_c0 : (Jvm.Cond.code x code maxLocals ret).before args0 about1 = true := code_word (m := ⟨1, 1⟩) (meth := k1m1) (c := k1c1) (by decide +kernel) rfl rfl rfl (by decide +kernel)
set_option maxRecDepth 65536 in
theorem w_c1 : (Jvm.Cond.code ({ cls := "com/example/isolith/isolith/history/WriteTable", name := "<init>", desc := "(J)V" } : Jvm.MethodName) prog_172_method_1_code (3 : Nat) (Option.none : Option Jvm.ClassFile.FieldType)).before args0 about1 = true := code_word (m := ⟨2, 0⟩) (meth := k2m0) (c := k2c0) (by decide +kernel) rfl rfl rfl (by decide +kernel)
set_option maxRecDepth 65536 in
theorem w_c2 : (Jvm.Cond.code ({ cls := "java/lang/Object", name := "<init>", desc := "()V" } : Jvm.MethodName) object_method_1_code (1 : Nat) (Option.none : Option Jvm.ClassFile.FieldType)).before args0 about1 = true := code_word (m := ⟨0, 0⟩) (meth := k0m0) (c := k0c0) (by decide +kernel) rfl rfl rfl (by decide +kernel)
set_option maxRecDepth 65536 in
theorem w_c3 : (Jvm.Cond.code ({ cls := "java/lang/Math", name := "min", desc := "(JJ)J" } : Jvm.MethodName) jdk_29_method_70_code (4 : Nat) (Option.some Jvm.ClassFile.FieldType.long)).before args0 about1 = true := code_word (m := ⟨3, 2⟩) (meth := k3m2) (c := k3c2) (by decide +kernel) rfl rfl rfl (by decide +kernel)
set_option maxRecDepth 65536 in
theorem w_c4 : (Jvm.Cond.code ({ cls := "com/example/isolith/isolith/history/WriteTable", name := "add", desc := "(IIJ)Z" } : Jvm.MethodName) prog_172_method_2_code (8 : Nat) (Option.some Jvm.ClassFile.FieldType.boolean)).before args0 about1 = true := code_word (m := ⟨2, 1⟩) (meth := k2m1) (c := k2c1) (by decide +kernel) rfl rfl rfl (by decide +kernel)
set_option maxRecDepth 65536 in
theorem w_c5 : (Jvm.Cond.code ({ cls := "com/example/isolith/isolith/history/WriteTable", name := "find", desc := "(IJ)I" } : Jvm.MethodName) prog_172_method_3_code (6 : Nat) (Option.some Jvm.ClassFile.FieldType.int)).before args0 about1 = true := code_word (m := ⟨2, 2⟩) (meth := k2m2) (c := k2c2) (by decide +kernel) rfl rfl rfl (by decide +kernel)
set_option maxRecDepth 65536 in
theorem w_c6 : (Jvm.Cond.code ({ cls := "java/lang/Integer", name := "highestOneBit", desc := "(I)I" } : Jvm.MethodName) jdk_33_method_45_code (1 : Nat) (Option.some Jvm.ClassFile.FieldType.int)).before args0 about1 = true := code_word (m := ⟨9, 0⟩) (meth := k9m0) (c := k9c0) (by decide +kernel) rfl rfl rfl (by decide +kernel)
set_option maxRecDepth 65536 in
theorem w_c7 : (Jvm.Cond.code ({ cls := "java/lang/Integer", name := "numberOfLeadingZeros", desc := "(I)I" } : Jvm.MethodName) jdk_33_method_47_code (2 : Nat) (Option.some Jvm.ClassFile.FieldType.int)).before args0 about1 = true := code_word (m := ⟨9, 1⟩) (meth := k9m1) (c := k9c1) (by decide +kernel) rfl rfl rfl (by decide +kernel)
set_option maxRecDepth 65536 in
theorem w_c8 : (Jvm.Cond.code ({ cls := "java/util/Arrays", name := "copyOf", desc := "([JI)[J" } : Jvm.MethodName) jdk_65_method_124_code (3 : Nat) (Option.some (Jvm.ClassFile.FieldType.array Jvm.ClassFile.FieldType.long))).before args0 about1 = true := code_word (m := ⟨10, 1⟩) (meth := k10m1) (c := k10c1) (by decide +kernel) rfl rfl rfl (by decide +kernel)
set_option maxRecDepth 65536 in
theorem w_c9 : (Jvm.Cond.code ({ cls := "java/lang/Math", name := "min", desc := "(II)I" } : Jvm.MethodName) jdk_29_method_69_code (2 : Nat) (Option.some Jvm.ClassFile.FieldType.int)).before args0 about1 = true := code_word (m := ⟨3, 1⟩) (meth := k3m1) (c := k3c1) (by decide +kernel) rfl rfl rfl (by decide +kernel)
def codes1 : List Jvm.Cond := [Jvm.Cond.code x code maxLocals ret, Jvm.Cond.code ({ cls := "com/example/isolith/isolith/history/WriteTable", name := "<init>", desc := "(J)V" } : Jvm.MethodName) prog_172_method_1_code (3 : Nat) (Option.none : Option Jvm.ClassFile.FieldType), Jvm.Cond.code ({ cls := "java/lang/Object", name := "<init>", desc := "()V" } : Jvm.MethodName) object_method_1_code (1 : Nat) (Option.none : Option Jvm.ClassFile.FieldType), Jvm.Cond.code ({ cls := "java/lang/Math", name := "min", desc := "(JJ)J" } : Jvm.MethodName) jdk_29_method_70_code (4 : Nat) (Option.some Jvm.ClassFile.FieldType.long), Jvm.Cond.code ({ cls := "com/example/isolith/isolith/history/WriteTable", name := "add", desc := "(IIJ)Z" } : Jvm.MethodName) prog_172_method_2_code (8 : Nat) (Option.some Jvm.ClassFile.FieldType.boolean), Jvm.Cond.code ({ cls := "com/example/isolith/isolith/history/WriteTable", name := "find", desc := "(IJ)I" } : Jvm.MethodName) prog_172_method_3_code (6 : Nat) (Option.some Jvm.ClassFile.FieldType.int), Jvm.Cond.code ({ cls := "java/lang/Integer", name := "highestOneBit", desc := "(I)I" } : Jvm.MethodName) jdk_33_method_45_code (1 : Nat) (Option.some Jvm.ClassFile.FieldType.int), Jvm.Cond.code ({ cls := "java/lang/Integer", name := "numberOfLeadingZeros", desc := "(I)I" } : Jvm.MethodName) jdk_33_method_47_code (2 : Nat) (Option.some Jvm.ClassFile.FieldType.int), Jvm.Cond.code ({ cls := "java/util/Arrays", name := "copyOf", desc := "([JI)[J" } : Jvm.MethodName) jdk_65_method_124_code (3 : Nat) (Option.some (Jvm.ClassFile.FieldType.array Jvm.ClassFile.FieldType.long)), Jvm.Cond.code ({ cls := "java/lang/Math", name := "min", desc := "(II)I" } : Jvm.MethodName) jdk_29_method_69_code (2 : Nat) (Option.some Jvm.ClassFile.FieldType.int)]
set_option maxRecDepth 65536 in
theorem codes_eq : words1.filter isCode = codes1 := rfl
theorem w_codes : ∀ c ∈ words1.filter isCode, c.before args0 about1 = true := by
  rw [codes_eq]
  intro c hc
  simp only [codes1, List.mem_cons, List.not_mem_nil, or_false] at hc
  rcases hc with rfl | rfl | rfl | rfl | rfl | rfl | rfl | rfl | rfl | rfl
  · exact w_c0
  · exact w_c1
  · exact w_c2
  · exact w_c3
  · exact w_c4
  · exact w_c5
  · exact w_c6
  · exact w_c7
  · exact w_c8
  · exact w_c9
set_option maxRecDepth 65536 in
theorem w_t1 : (words1.take 24).all (fun c => isCode c || c.before args0 about1) = true := by decide +kernel
set_option maxRecDepth 65536 in
theorem w_t2 : ((words1.drop 24).take 24).all (fun c => isCode c || c.before args0 about1) = true := by decide +kernel
set_option maxRecDepth 65536 in
theorem w_t3 : ((words1.drop 24).drop 24).all (fun c => isCode c || c.before args0 about1) = true := by decide +kernel
theorem w_tables : (allAtoms (Jvm.Cond.code x code maxLocals ret :: tables_1)).before args0 about1 = true := by
  rw [allAtoms_all]
  show words1.all (fun c => c.before args0 about1) = true
  refine all_split ?_ w_codes
  rw [← List.take_append_drop 24 words1, List.all_append, w_t1, ← List.take_append_drop 24 (words1.drop 24), List.all_append, w_t2, w_t3]
  rfl
set_option maxRecDepth 65536 in
theorem w_case : (Jvm.Cond.and given_1 narrow_1).before args0 about1 = true := by decide +kernel
theorem w_applies : (headSpec (Jvm.Cond.code x code maxLocals ret :: tables_1) room_1).applies x e0.platform about1 = true :=
  (Spec.applies_iff w_frames).mpr ⟨w_running, w_runnable, w_alone, w_named, w_hears, w_ripe, w_room, w_tables⟩
theorem atStart : AtStart classFile x code maxLocals ret World_1 tables_1 room_1 Calls_1 rest_1 Pre_1 launch0 p0 e0 about1 theMethod args0 below0 :=
  ⟨lists_1, trivial, launch0.admits_env _ _ _, launch0.least_env, fairChoices_fair.cas, fairChoices_fair.clock, w_frames, w_args, w_heap, w_applies, trivial, trivial, w_case⟩
end start1
theorem witness_1 : WitnessClaimed_1 := ⟨start1.p0, start1.e0, start1.about1, start1.theMethod, start1.args0, start1.below0, start1.atStart⟩
end Jvm.Pilot.@@N@@
