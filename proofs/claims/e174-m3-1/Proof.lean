import JvmDerived
import JvmDerived.Pilot.@@N@@Statement
import JvmDerived.Pilot.@@N@@Code
set_option linter.unusedVariables false
set_option linter.unusedSimpArgs false
@@BLOCK:NumsL.lean.txt@@
namespace Jvm.Pilot.@@N@@
open Jvm Jvm.ClassFile Sem Op Lib Jvm.Free Jvm.Stand Jvm.LawKit Jvm.RoadKit Bundle Jvm.Pilot.@@N@@.Jvm.D
def own_E (p : Program) (e : Env) (below : List Frame) (P : State → Outcome → Prop) (T : State) (g : JFrame) : Prop := ∃ t o, Steps p.tables e below (T.setTop g) t ∧ P t o
theorem own_go {p : Program} {e : Env} {below : List Frame} {P : State → Outcome → Prop} {T T' : State} {g g' : JFrame} (st : ∀ t, Steps p.tables e below (T'.setTop g') t → Steps p.tables e below (T.setTop g) t) (h : own_E p e below P T' g') : own_E p e below P T g := by
  obtain ⟨t, o, h1, h2⟩ := h
  exact ⟨t, o, st t h1, h2⟩
def own_C (p : Program) (s : State) (m : MethodId) (c : Code) (bytes : ByteArray) (own : String) (Z : State) (ml : Nat) : Prop := p.tables.exec = Jvm.exec ∧ c.code = bytes ∧ Z.Warmed39 s.vm ∧ s.vm.findClass own = some m.cls ∧ c.maxLocals = ml
def own_R (s : State) (below : List Frame) (Q : Option Value → Heap → List Loc → Prop) (k n : Nat) : State → Outcome → Prop := fun t o => t.status = .running ∧ Ended t below o ∧ ∃ v L, o = .returned v ∧ Q v t.heap L ∧ FrameEnd s o t L k n
section Own
variable {p : Program} {l : Launch} {e : Env} {R : Room} {s : State} {m : MethodId} {args : Array Value} {below : List Frame} {meth : Method} {c : Code} {T : State} {locs : List Loc} {cells slots : Nat} {bytes : ByteArray} {own : String} {Z : State} {ml : Nat} {P : State → Outcome → Prop} {pc pc' : Nat} {L L' : Array Slot} {S : List Value} {a0 : Array Value} {h : Heap}
theorem own_aloadN (C : own_C p s m c bytes own Z ml) (X : Stand p l e R s m args below meth c T locs cells slots) {k : Fin 4} {v : Value} (hd : decode bytes pc = .ok (.aload_n k, 1)) (hl : L[k.val]? = some (.val v)) (hv : v.isRef = true) (hp : pc + 1 = pc') (K : own_E p e below P T (mkF m pc' L (v :: S))) : own_E p e below P T (mkF m pc L S) := by
  subst hp
  exact own_go (fun t k => XS.aloadN X.here C.1 rfl (hb C.2.1 hd) hl hv k) K
theorem own_aload (C : own_C p s m c bytes own Z ml) (X : Stand p l e R s m args below meth c T locs cells slots) {k : Nat} {v : Value} (hd : decode bytes pc = .ok (.aload k, 2)) (hl : L[k]? = some (.val v)) (hv : v.isRef = true) (hp : pc + 2 = pc') (K : own_E p e below P T (mkF m pc' L (v :: S))) : own_E p e below P T (mkF m pc L S) := by
  subst hp
  exact own_go (fun t k => XS.aload X.here C.1 rfl (hb C.2.1 hd) hl hv k) K
theorem own_iloadN (C : own_C p s m c bytes own Z ml) (X : Stand p l e R s m args below meth c T locs cells slots) {k : Fin 4} {v : Int32} (hd : decode bytes pc = .ok (.iload_n k, 1)) (hl : L[k.val]? = some (.val (.int v))) (hp : pc + 1 = pc') (K : own_E p e below P T (mkF m pc' L (.int v :: S))) : own_E p e below P T (mkF m pc L S) := by
  subst hp
  exact own_go (fun t k => XS.iloadN X.here C.1 rfl (hb C.2.1 hd) hl k) K
theorem own_iload (C : own_C p s m c bytes own Z ml) (X : Stand p l e R s m args below meth c T locs cells slots) {k : Nat} {v : Int32} (hd : decode bytes pc = .ok (.iload k, 2)) (hl : L[k]? = some (.val (.int v))) (hp : pc + 2 = pc') (K : own_E p e below P T (mkF m pc' L (.int v :: S))) : own_E p e below P T (mkF m pc L S) := by
  subst hp
  exact own_go (fun t k => XS.iload X.here C.1 rfl (hb C.2.1 hd) hl k) K
theorem own_istoreN (C : own_C p s m c bytes own Z ml) (X : Stand p l e R s m args below meth c T locs cells slots) {k : Fin 4} {v : Int32} (hd : decode bytes pc = .ok (.istore_n k, 1)) (hl : storeLocals L k.val (.int v) = some L') (hp : pc + 1 = pc') (K : own_E p e below P T (mkF m pc' L' S)) : own_E p e below P T (mkF m pc L (.int v :: S)) := by
  subst hp
  exact own_go (fun t k => XS.istoreN X.here C.1 rfl (hb C.2.1 hd) rfl hl k) K
theorem own_istore (C : own_C p s m c bytes own Z ml) (X : Stand p l e R s m args below meth c T locs cells slots) {k : Nat} {v : Int32} (hd : decode bytes pc = .ok (.istore k, 2)) (hl : storeLocals L k (.int v) = some L') (hp : pc + 2 = pc') (K : own_E p e below P T (mkF m pc' L' S)) : own_E p e below P T (mkF m pc L (.int v :: S)) := by
  subst hp
  exact own_go (fun t k => XS.istore X.here C.1 rfl (hb C.2.1 hd) rfl hl k) K
theorem own_lloadN (C : own_C p s m c bytes own Z ml) (X : Stand p l e R s m args below meth c T locs cells slots) {k : Fin 4} {v : Int64} (hd : decode bytes pc = .ok (.lload_n k, 1)) (hl : L[k.val]? = some (.val (.long v))) (hp : pc + 1 = pc') (K : own_E p e below P T (mkF m pc' L (.long v :: S))) : own_E p e below P T (mkF m pc L S) := by
  subst hp
  exact own_go (fun t k => XS.lloadN X.here C.1 rfl (hb C.2.1 hd) hl k) K
theorem own_lload (C : own_C p s m c bytes own Z ml) (X : Stand p l e R s m args below meth c T locs cells slots) {k : Nat} {v : Int64} (hd : decode bytes pc = .ok (.lload k, 2)) (hl : L[k]? = some (.val (.long v))) (hp : pc + 2 = pc') (K : own_E p e below P T (mkF m pc' L (.long v :: S))) : own_E p e below P T (mkF m pc L S) := by
  subst hp
  exact own_go (fun t k => XS.lload X.here C.1 rfl (hb C.2.1 hd) hl k) K
theorem own_lstoreN (C : own_C p s m c bytes own Z ml) (X : Stand p l e R s m args below meth c T locs cells slots) {k : Fin 4} {v : Int64} (hd : decode bytes pc = .ok (.lstore_n k, 1)) (hl : storeLocals L k.val (.long v) = some L') (hp : pc + 1 = pc') (K : own_E p e below P T (mkF m pc' L' S)) : own_E p e below P T (mkF m pc L (.long v :: S)) := by
  subst hp
  exact own_go (fun t k => XS.lstoreN X.here C.1 rfl (hb C.2.1 hd) rfl hl k) K
theorem own_lstore (C : own_C p s m c bytes own Z ml) (X : Stand p l e R s m args below meth c T locs cells slots) {k : Nat} {v : Int64} (hd : decode bytes pc = .ok (.lstore k, 2)) (hl : storeLocals L k (.long v) = some L') (hp : pc + 2 = pc') (K : own_E p e below P T (mkF m pc' L' S)) : own_E p e below P T (mkF m pc L (.long v :: S)) := by
  subst hp
  exact own_go (fun t k => XS.lstore X.here C.1 rfl (hb C.2.1 hd) rfl hl k) K
theorem own_astoreN (C : own_C p s m c bytes own Z ml) (X : Stand p l e R s m args below meth c T locs cells slots) {k : Fin 4} {v : Value} (hd : decode bytes pc = .ok (.astore_n k, 1)) (hv : v.isRef = true) (hl : storeLocals L k.val v = some L') (hp : pc + 1 = pc') (K : own_E p e below P T (mkF m pc' L' S)) : own_E p e below P T (mkF m pc L (v :: S)) := by
  subst hp
  exact own_go (fun t k => XS.astoreN X.here C.1 rfl (hb C.2.1 hd) rfl hv hl k) K
theorem own_astore (C : own_C p s m c bytes own Z ml) (X : Stand p l e R s m args below meth c T locs cells slots) {k : Nat} {v : Value} (hd : decode bytes pc = .ok (.astore k, 2)) (hv : v.isRef = true) (hl : storeLocals L k v = some L') (hp : pc + 2 = pc') (K : own_E p e below P T (mkF m pc' L' S)) : own_E p e below P T (mkF m pc L (v :: S)) := by
  subst hp
  exact own_go (fun t k => XS.astore X.here C.1 rfl (hb C.2.1 hd) rfl hv hl k) K
theorem own_iconst (C : own_C p s m c bytes own Z ml) (X : Stand p l e R s m args below meth c T locs cells slots) {i : Int} (z : Int32) (hd : decode bytes pc = .ok (.iconst i, 1)) (hz : Int32.ofInt i = z) (hp : pc + 1 = pc') (K : own_E p e below P T (mkF m pc' L (.int z :: S))) : own_E p e below P T (mkF m pc L S) := by
  subst hp hz
  exact own_go (fun t k => XS.iconst X.here C.1 rfl (hb C.2.1 hd) k) K
theorem own_bipush (C : own_C p s m c bytes own Z ml) (X : Stand p l e R s m args below meth c T locs cells slots) {i : Int} (z : Int32) (hd : decode bytes pc = .ok (.bipush i, 2)) (hz : (Int8.ofInt i).toInt32 = z) (hp : pc + 2 = pc') (K : own_E p e below P T (mkF m pc' L (.int z :: S))) : own_E p e below P T (mkF m pc L S) := by
  subst hp hz
  exact own_go (fun t k => XS.bipush X.here C.1 rfl (hb C.2.1 hd) k) K
theorem own_sipush (C : own_C p s m c bytes own Z ml) (X : Stand p l e R s m args below meth c T locs cells slots) {i : Int} (z : Int32) (hd : decode bytes pc = .ok (.sipush i, 3)) (hz : (Int16.ofInt i).toInt32 = z) (hp : pc + 3 = pc') (K : own_E p e below P T (mkF m pc' L (.int z :: S))) : own_E p e below P T (mkF m pc L S) := by
  subst hp hz
  exact own_go (fun t k => XS.sipush X.here C.1 rfl (hb C.2.1 hd) k) K
theorem own_lconst (C : own_C p s m c bytes own Z ml) (X : Stand p l e R s m args below meth c T locs cells slots) {i : Fin 2} (z : Int64) (hd : decode bytes pc = .ok (.lconst i, 1)) (hz : Int64.ofNat i = z) (hp : pc + 1 = pc') (K : own_E p e below P T (mkF m pc' L (.long z :: S))) : own_E p e below P T (mkF m pc L S) := by
  subst hp hz
  exact own_go (fun t k => XS.lconst X.here C.1 rfl (hb C.2.1 hd) k) K
theorem own_aconstNull (C : own_C p s m c bytes own Z ml) (X : Stand p l e R s m args below meth c T locs cells slots)  (hd : decode bytes pc = .ok (.aconst_null, 1)) (hp : pc + 1 = pc') (K : own_E p e below P T (mkF m pc' L (.null :: S))) : own_E p e below P T (mkF m pc L S) := by
  subst hp
  exact own_go (fun t k => XS.aconstNull X.here C.1 rfl (hb C.2.1 hd) k) K
theorem own_iadd (C : own_C p s m c bytes own Z ml) (X : Stand p l e R s m args below meth c T locs cells slots) {x y : Int32} (hd : decode bytes pc = .ok (.iadd, 1)) (hp : pc + 1 = pc') (K : own_E p e below P T (mkF m pc' L (.int (x + y) :: S))) : own_E p e below P T (mkF m pc L (.int y :: .int x :: S)) := by
  subst hp
  exact own_go (fun t k => XS.iadd X.here C.1 rfl (hb C.2.1 hd) rfl k) K
theorem own_ladd (C : own_C p s m c bytes own Z ml) (X : Stand p l e R s m args below meth c T locs cells slots) {x y : Int64} (hd : decode bytes pc = .ok (.ladd, 1)) (hp : pc + 1 = pc') (K : own_E p e below P T (mkF m pc' L (.long (x + y) :: S))) : own_E p e below P T (mkF m pc L (.long y :: .long x :: S)) := by
  subst hp
  exact own_go (fun t k => XS.ladd X.here C.1 rfl (hb C.2.1 hd) rfl k) K
theorem own_isub (C : own_C p s m c bytes own Z ml) (X : Stand p l e R s m args below meth c T locs cells slots) {x y : Int32} (hd : decode bytes pc = .ok (.isub, 1)) (hp : pc + 1 = pc') (K : own_E p e below P T (mkF m pc' L (.int (x - y) :: S))) : own_E p e below P T (mkF m pc L (.int y :: .int x :: S)) := by
  subst hp
  exact own_go (fun t k => XS.isub X.here C.1 rfl (hb C.2.1 hd) rfl k) K
theorem own_lsub (C : own_C p s m c bytes own Z ml) (X : Stand p l e R s m args below meth c T locs cells slots) {x y : Int64} (hd : decode bytes pc = .ok (.lsub, 1)) (hp : pc + 1 = pc') (K : own_E p e below P T (mkF m pc' L (.long (x - y) :: S))) : own_E p e below P T (mkF m pc L (.long y :: .long x :: S)) := by
  subst hp
  exact own_go (fun t k => XS.lsub X.here C.1 rfl (hb C.2.1 hd) rfl k) K
theorem own_imul (C : own_C p s m c bytes own Z ml) (X : Stand p l e R s m args below meth c T locs cells slots) {x y : Int32} (hd : decode bytes pc = .ok (.imul, 1)) (hp : pc + 1 = pc') (K : own_E p e below P T (mkF m pc' L (.int (x * y) :: S))) : own_E p e below P T (mkF m pc L (.int y :: .int x :: S)) := by
  subst hp
  exact own_go (fun t k => XS.imul X.here C.1 rfl (hb C.2.1 hd) rfl k) K
theorem own_lmul (C : own_C p s m c bytes own Z ml) (X : Stand p l e R s m args below meth c T locs cells slots) {x y : Int64} (hd : decode bytes pc = .ok (.lmul, 1)) (hp : pc + 1 = pc') (K : own_E p e below P T (mkF m pc' L (.long (x * y) :: S))) : own_E p e below P T (mkF m pc L (.long y :: .long x :: S)) := by
  subst hp
  exact own_go (fun t k => XS.lmul X.here C.1 rfl (hb C.2.1 hd) rfl k) K
theorem own_iand (C : own_C p s m c bytes own Z ml) (X : Stand p l e R s m args below meth c T locs cells slots) {x y : Int32} (hd : decode bytes pc = .ok (.iand, 1)) (hp : pc + 1 = pc') (K : own_E p e below P T (mkF m pc' L (.int (x &&& y) :: S))) : own_E p e below P T (mkF m pc L (.int y :: .int x :: S)) := by
  subst hp
  exact own_go (fun t k => XS.iand X.here C.1 rfl (hb C.2.1 hd) rfl k) K
theorem own_land (C : own_C p s m c bytes own Z ml) (X : Stand p l e R s m args below meth c T locs cells slots) {x y : Int64} (hd : decode bytes pc = .ok (.land, 1)) (hp : pc + 1 = pc') (K : own_E p e below P T (mkF m pc' L (.long (x &&& y) :: S))) : own_E p e below P T (mkF m pc L (.long y :: .long x :: S)) := by
  subst hp
  exact own_go (fun t k => XS.land X.here C.1 rfl (hb C.2.1 hd) rfl k) K
theorem own_ior (C : own_C p s m c bytes own Z ml) (X : Stand p l e R s m args below meth c T locs cells slots) {x y : Int32} (hd : decode bytes pc = .ok (.ior, 1)) (hp : pc + 1 = pc') (K : own_E p e below P T (mkF m pc' L (.int (x ||| y) :: S))) : own_E p e below P T (mkF m pc L (.int y :: .int x :: S)) := by
  subst hp
  exact own_go (fun t k => XS.ior X.here C.1 rfl (hb C.2.1 hd) rfl k) K
theorem own_lor (C : own_C p s m c bytes own Z ml) (X : Stand p l e R s m args below meth c T locs cells slots) {x y : Int64} (hd : decode bytes pc = .ok (.lor, 1)) (hp : pc + 1 = pc') (K : own_E p e below P T (mkF m pc' L (.long (x ||| y) :: S))) : own_E p e below P T (mkF m pc L (.long y :: .long x :: S)) := by
  subst hp
  exact own_go (fun t k => XS.lor X.here C.1 rfl (hb C.2.1 hd) rfl k) K
theorem own_ixor (C : own_C p s m c bytes own Z ml) (X : Stand p l e R s m args below meth c T locs cells slots) {x y : Int32} (hd : decode bytes pc = .ok (.ixor, 1)) (hp : pc + 1 = pc') (K : own_E p e below P T (mkF m pc' L (.int (x ^^^ y) :: S))) : own_E p e below P T (mkF m pc L (.int y :: .int x :: S)) := by
  subst hp
  exact own_go (fun t k => XS.ixor X.here C.1 rfl (hb C.2.1 hd) rfl k) K
theorem own_lxor (C : own_C p s m c bytes own Z ml) (X : Stand p l e R s m args below meth c T locs cells slots) {x y : Int64} (hd : decode bytes pc = .ok (.lxor, 1)) (hp : pc + 1 = pc') (K : own_E p e below P T (mkF m pc' L (.long (x ^^^ y) :: S))) : own_E p e below P T (mkF m pc L (.long y :: .long x :: S)) := by
  subst hp
  exact own_go (fun t k => XS.lxor X.here C.1 rfl (hb C.2.1 hd) rfl k) K
theorem own_ishl (C : own_C p s m c bytes own Z ml) (X : Stand p l e R s m args below meth c T locs cells slots) {x y : Int32} (hd : decode bytes pc = .ok (.ishl, 1)) (hp : pc + 1 = pc') (K : own_E p e below P T (mkF m pc' L (.int (x <<< (y &&& 31)) :: S))) : own_E p e below P T (mkF m pc L (.int y :: .int x :: S)) := by
  subst hp
  exact own_go (fun t k => XS.ishl X.here C.1 rfl (hb C.2.1 hd) rfl k) K
theorem own_ishr (C : own_C p s m c bytes own Z ml) (X : Stand p l e R s m args below meth c T locs cells slots) {x y : Int32} (hd : decode bytes pc = .ok (.ishr, 1)) (hp : pc + 1 = pc') (K : own_E p e below P T (mkF m pc' L (.int (x >>> (y &&& 31)) :: S))) : own_E p e below P T (mkF m pc L (.int y :: .int x :: S)) := by
  subst hp
  exact own_go (fun t k => XS.ishr X.here C.1 rfl (hb C.2.1 hd) rfl k) K
theorem own_iushr (C : own_C p s m c bytes own Z ml) (X : Stand p l e R s m args below meth c T locs cells slots) {x y : Int32} (hd : decode bytes pc = .ok (.iushr, 1)) (hp : pc + 1 = pc') (K : own_E p e below P T (mkF m pc' L (.int ((x.toUInt32 >>> (y &&& 31).toUInt32).toInt32) :: S))) : own_E p e below P T (mkF m pc L (.int y :: .int x :: S)) := by
  subst hp
  exact own_go (fun t k => XS.iushr X.here C.1 rfl (hb C.2.1 hd) rfl k) K
theorem own_lshl (C : own_C p s m c bytes own Z ml) (X : Stand p l e R s m args below meth c T locs cells slots) {x : Int64} {y : Int32} (hd : decode bytes pc = .ok (.lshl, 1)) (hp : pc + 1 = pc') (K : own_E p e below P T (mkF m pc' L (.long (x <<< (y &&& 0x3f).toInt64) :: S))) : own_E p e below P T (mkF m pc L (.int y :: .long x :: S)) := by
  subst hp
  exact own_go (fun t k => XS.lshl X.here C.1 rfl (hb C.2.1 hd) rfl k) K
theorem own_lshr (C : own_C p s m c bytes own Z ml) (X : Stand p l e R s m args below meth c T locs cells slots) {x : Int64} {y : Int32} (hd : decode bytes pc = .ok (.lshr, 1)) (hp : pc + 1 = pc') (K : own_E p e below P T (mkF m pc' L (.long (x >>> (y &&& 0x3f).toInt64) :: S))) : own_E p e below P T (mkF m pc L (.int y :: .long x :: S)) := by
  subst hp
  exact own_go (fun t k => XS.lshr X.here C.1 rfl (hb C.2.1 hd) rfl k) K
theorem own_lushr (C : own_C p s m c bytes own Z ml) (X : Stand p l e R s m args below meth c T locs cells slots) {x : Int64} {y : Int32} (hd : decode bytes pc = .ok (.lushr, 1)) (hp : pc + 1 = pc') (K : own_E p e below P T (mkF m pc' L (.long ((x.toUInt64 >>> (y &&& 0x3f).toInt64.toUInt64).toInt64) :: S))) : own_E p e below P T (mkF m pc L (.int y :: .long x :: S)) := by
  subst hp
  exact own_go (fun t k => XS.lushr X.here C.1 rfl (hb C.2.1 hd) rfl k) K
theorem own_ineg (C : own_C p s m c bytes own Z ml) (X : Stand p l e R s m args below meth c T locs cells slots) {x : Int32} (hd : decode bytes pc = .ok (.ineg, 1)) (hp : pc + 1 = pc') (K : own_E p e below P T (mkF m pc' L (.int (-x) :: S))) : own_E p e below P T (mkF m pc L (.int x :: S)) := by
  subst hp
  exact own_go (fun t k => XS.ineg X.here C.1 rfl (hb C.2.1 hd) rfl k) K
theorem own_lneg (C : own_C p s m c bytes own Z ml) (X : Stand p l e R s m args below meth c T locs cells slots) {x : Int64} (hd : decode bytes pc = .ok (.lneg, 1)) (hp : pc + 1 = pc') (K : own_E p e below P T (mkF m pc' L (.long (-x) :: S))) : own_E p e below P T (mkF m pc L (.long x :: S)) := by
  subst hp
  exact own_go (fun t k => XS.lneg X.here C.1 rfl (hb C.2.1 hd) rfl k) K
theorem own_i2l (C : own_C p s m c bytes own Z ml) (X : Stand p l e R s m args below meth c T locs cells slots) {x : Int32} (hd : decode bytes pc = .ok (.i2l, 1)) (hp : pc + 1 = pc') (K : own_E p e below P T (mkF m pc' L (.long x.toInt64 :: S))) : own_E p e below P T (mkF m pc L (.int x :: S)) := by
  subst hp
  exact own_go (fun t k => XS.i2l X.here C.1 rfl (hb C.2.1 hd) rfl k) K
theorem own_l2i (C : own_C p s m c bytes own Z ml) (X : Stand p l e R s m args below meth c T locs cells slots) {x : Int64} (hd : decode bytes pc = .ok (.l2i, 1)) (hp : pc + 1 = pc') (K : own_E p e below P T (mkF m pc' L (.int x.toInt32 :: S))) : own_E p e below P T (mkF m pc L (.long x :: S)) := by
  subst hp
  exact own_go (fun t k => XS.l2i X.here C.1 rfl (hb C.2.1 hd) rfl k) K
theorem own_i2b (C : own_C p s m c bytes own Z ml) (X : Stand p l e R s m args below meth c T locs cells slots) {x : Int32} (hd : decode bytes pc = .ok (.i2b, 1)) (hp : pc + 1 = pc') (K : own_E p e below P T (mkF m pc' L (.int x.toInt8.toInt32 :: S))) : own_E p e below P T (mkF m pc L (.int x :: S)) := by
  subst hp
  exact own_go (fun t k => XS.i2b X.here C.1 rfl (hb C.2.1 hd) rfl k) K
theorem own_i2c (C : own_C p s m c bytes own Z ml) (X : Stand p l e R s m args below meth c T locs cells slots) {x : Int32} (hd : decode bytes pc = .ok (.i2c, 1)) (hp : pc + 1 = pc') (K : own_E p e below P T (mkF m pc' L (.int x.toUInt32.toUInt16.toUInt32.toInt32 :: S))) : own_E p e below P T (mkF m pc L (.int x :: S)) := by
  subst hp
  exact own_go (fun t k => XS.i2c X.here C.1 rfl (hb C.2.1 hd) rfl k) K
theorem own_dup (C : own_C p s m c bytes own Z ml) (X : Stand p l e R s m args below meth c T locs cells slots) {x : Value} (hd : decode bytes pc = .ok (.dup, 1)) (hc : x.category = 1) (hp : pc + 1 = pc') (K : own_E p e below P T (mkF m pc' L (x :: x :: S))) : own_E p e below P T (mkF m pc L (x :: S)) := by
  subst hp
  exact own_go (fun t k => XS.dup X.here C.1 rfl (hb C.2.1 hd) rfl hc k) K
theorem own_pop (C : own_C p s m c bytes own Z ml) (X : Stand p l e R s m args below meth c T locs cells slots) {x : Value} (hd : decode bytes pc = .ok (.pop, 1)) (hc : x.category = 1) (hp : pc + 1 = pc') (K : own_E p e below P T (mkF m pc' L S)) : own_E p e below P T (mkF m pc L (x :: S)) := by
  subst hp
  exact own_go (fun t k => XS.pop X.here C.1 rfl (hb C.2.1 hd) rfl hc k) K
theorem own_lcmp (C : own_C p s m c bytes own Z ml) (X : Stand p l e R s m args below meth c T locs cells slots) {x y : Int64} (hd : decode bytes pc = .ok (.lcmp, 1)) (hp : pc + 1 = pc') (K : own_E p e below P T (mkF m pc' L (.int (lcmpW x y) :: S))) : own_E p e below P T (mkF m pc L (.long y :: .long x :: S)) := by
  subst hp
  exact own_go (fun t k => XS.lcmp X.here C.1 rfl (hb C.2.1 hd) rfl k) K
theorem own_irem (C : own_C p s m c bytes own Z ml) (X : Stand p l e R s m args below meth c T locs cells slots) {x y : Int32} (hy : y ≠ 0) (hd : decode bytes pc = .ok (.irem, 1)) (hp : pc + 1 = pc') (K : own_E p e below P T (mkF m pc' L (.int (x % y) :: S))) : own_E p e below P T (mkF m pc L (.int y :: .int x :: S)) := by
  subst hp
  exact own_go (fun t k => iremM X C.1 rfl (hb C.2.1 hd) rfl hy k) K
theorem own_goto (C : own_C p s m c bytes own Z ml) (X : Stand p l e R s m args below meth c T locs cells slots) {o : Int} (hd : decode bytes pc = .ok (.goto o, 3)) (ho : 0 ≤ (pc : Int) + o) (hp : ((pc : Int) + o).toNat = pc') (K : own_E p e below P T (mkF m pc' L S)) : own_E p e below P T (mkF m pc L S) := by
  exact own_go (fun t k => XS.goto X.here C.1 rfl rfl (hb C.2.1 hd) ho hp k) K
theorem own_ifY (C : own_C p s m c bytes own Z ml) (X : Stand p l e R s m args below meth c T locs cells slots) {cd : ClassFile.Cond} {x : Int32} {o : Int} (hd : decode bytes pc = .ok (.ifCond cd o, 3)) (hc : ifCond.holds cd x = true) (ho : 0 ≤ (pc : Int) + o) (hp : ((pc : Int) + o).toNat = pc') (K : own_E p e below P T (mkF m pc' L S)) : own_E p e below P T (mkF m pc L (.int x :: S)) := by
  exact own_go (fun t k => XS.ifYes X.here C.1 rfl rfl (hb C.2.1 hd) rfl hc ho hp k) K
theorem own_ifN (C : own_C p s m c bytes own Z ml) (X : Stand p l e R s m args below meth c T locs cells slots) {cd : ClassFile.Cond} {x : Int32} {o : Int} (hd : decode bytes pc = .ok (.ifCond cd o, 3)) (hc : ifCond.holds cd x = false) (hp : pc + 3 = pc') (K : own_E p e below P T (mkF m pc' L S)) : own_E p e below P T (mkF m pc L (.int x :: S)) := by
  subst hp
  exact own_go (fun t k => XS.ifNo X.here C.1 rfl (hb C.2.1 hd) rfl hc k) K
theorem own_icmpY (C : own_C p s m c bytes own Z ml) (X : Stand p l e R s m args below meth c T locs cells slots) {cd : ClassFile.Cond} {x y : Int32} {o : Int} (hd : decode bytes pc = .ok (.if_icmp cd o, 3)) (hc : if_icmp.holds cd x y = true) (ho : 0 ≤ (pc : Int) + o) (hp : ((pc : Int) + o).toNat = pc') (K : own_E p e below P T (mkF m pc' L S)) : own_E p e below P T (mkF m pc L (.int y :: .int x :: S)) := by
  exact own_go (fun t k => XS.icmpYes X.here C.1 rfl rfl (hb C.2.1 hd) rfl hc ho hp k) K
theorem own_icmpN (C : own_C p s m c bytes own Z ml) (X : Stand p l e R s m args below meth c T locs cells slots) {cd : ClassFile.Cond} {x y : Int32} {o : Int} (hd : decode bytes pc = .ok (.if_icmp cd o, 3)) (hc : if_icmp.holds cd x y = false) (hp : pc + 3 = pc') (K : own_E p e below P T (mkF m pc' L S)) : own_E p e below P T (mkF m pc L (.int y :: .int x :: S)) := by
  subst hp
  exact own_go (fun t k => XS.icmpNo X.here C.1 rfl (hb C.2.1 hd) rfl hc k) K
theorem own_lswY (C : own_C p s m c bytes own Z ml) (X : Stand p l e R s m args below meth c T locs cells slots) {z : Int32} {d : Int} {ps : Array (Int × Int)} {len : Nat} {a off : Int} (hd : decode bytes pc = .ok (.lookupswitch d ps, len)) (hs : (ps.toList.zip (ps.toList.drop 1)).all (fun (a, next) => a.1 < next.1) = true) (hf : ps.find? (·.1 == z.toInt) = some (a, off)) (ho : 0 ≤ (pc : Int) + off) (hp : ((pc : Int) + off).toNat = pc') (K : own_E p e below P T (mkF m pc' L S)) : own_E p e below P T (mkF m pc L (.int z :: S)) := by
  subst hp
  exact own_go (fun t k => X.lookupswitchHit C.1 (g := mkF m pc L (.int z :: S)) rfl rfl (hb C.2.1 hd) hs hf ho t k) K
theorem own_lswN (C : own_C p s m c bytes own Z ml) (X : Stand p l e R s m args below meth c T locs cells slots) {z : Int32} {d : Int} {ps : Array (Int × Int)} {len : Nat} (hd : decode bytes pc = .ok (.lookupswitch d ps, len)) (hs : (ps.toList.zip (ps.toList.drop 1)).all (fun (a, next) => a.1 < next.1) = true) (hf : ps.find? (·.1 == z.toInt) = none) (ho : 0 ≤ (pc : Int) + d) (hp : ((pc : Int) + d).toNat = pc') (K : own_E p e below P T (mkF m pc' L S)) : own_E p e below P T (mkF m pc L (.int z :: S)) := by
  subst hp
  exact own_go (fun t k => X.lookupswitchMiss C.1 (g := mkF m pc L (.int z :: S)) rfl rfl (hb C.2.1 hd) hs hf ho t k) K
theorem own_ldcI (C : own_C p s m c bytes own Z ml) (X : Stand p l e R s m args below meth c T locs cells slots) {i : Nat} {v : Int32} (w : (Cond.constant own i v).before a0 Z = true) (hd : decode bytes pc = .ok (.ldc i, 2)) (hp : pc + 2 = pc') (K : own_E p e below P T (mkF m pc' L (.int v :: S))) : own_E p e below P T (mkF m pc L S) := by
  subst hp
  exact own_go (fun t k => X.ldcInt C.1 C.2.2.2.1 (mvT C.2.2.1 w) (g := mkF m pc L S) rfl (hb C.2.1 hd) t k) K
theorem own_ldcJ (C : own_C p s m c bytes own Z ml) (X : Stand p l e R s m args below meth c T locs cells slots) {i : Nat} {v : Int64} (w : (Cond.constantLong own i v).before a0 Z = true) (hd : decode bytes pc = .ok (.ldc2_w i, 3)) (hp : pc + 3 = pc') (K : own_E p e below P T (mkF m pc' L (.long v :: S))) : own_E p e below P T (mkF m pc L S) := by
  subst hp
  exact own_go (fun t k => X.ldc2Long C.1 C.2.2.2.1 (mvT C.2.2.1 w) (g := mkF m pc L S) rfl (hb C.2.1 hd) t k) K
theorem own_iaload (C : own_C p s m c bytes own Z ml) (X : Stand p l e R s m args below meth c T locs cells slots) {a : Addr} {cl : Cell} {j : Int32} {v : Value} (eT : T.heap = h) (A : Arr Z h a cl .int) (hj : ¬ (j < 0 ∨ cl.slots.size ≤ j.toNatClampNeg)) (hv : cl.slots[j.toNatClampNeg]? = some v) (hd : decode bytes pc = .ok (.iaload, 1)) (hp : pc + 1 = pc') (K : own_E p e below P T (mkF m pc' L (v :: S))) : own_E p e below P T (mkF m pc L (.int j :: .ref a :: S)) := by
  subst hp
  exact own_go (fun t k => X.iaload C.1 (by rw [eT]; exact A.1) (State.isArrayOf_alike C.2.2.1.alike A.2.1) A.2.2 hj hv (g := mkF m pc L (.int j :: .ref a :: S)) rfl rfl (hb C.2.1 hd) t k) K
theorem own_laload (C : own_C p s m c bytes own Z ml) (X : Stand p l e R s m args below meth c T locs cells slots) {a : Addr} {cl : Cell} {j : Int32} {v : Value} (eT : T.heap = h) (A : Arr Z h a cl .long) (hj : ¬ (j < 0 ∨ cl.slots.size ≤ j.toNatClampNeg)) (hv : cl.slots[j.toNatClampNeg]? = some v) (hd : decode bytes pc = .ok (.laload, 1)) (hp : pc + 1 = pc') (K : own_E p e below P T (mkF m pc' L (v :: S))) : own_E p e below P T (mkF m pc L (.int j :: .ref a :: S)) := by
  subst hp
  exact own_go (fun t k => X.laload C.1 (by rw [eT]; exact A.1) (State.isArrayOf_alike C.2.2.1.alike A.2.1) A.2.2 hj hv (g := mkF m pc L (.int j :: .ref a :: S)) rfl rfl (hb C.2.1 hd) t k) K
theorem own_baload (C : own_C p s m c bytes own Z ml) (X : Stand p l e R s m args below meth c T locs cells slots) {a : Addr} {cl : Cell} {j : Int32} {v : Value} (eT : T.heap = h) (A : Arr Z h a cl .byte) (hj : ¬ (j < 0 ∨ cl.slots.size ≤ j.toNatClampNeg)) (hv : cl.slots[j.toNatClampNeg]? = some v) (hd : decode bytes pc = .ok (.baload, 1)) (hp : pc + 1 = pc') (K : own_E p e below P T (mkF m pc' L (v :: S))) : own_E p e below P T (mkF m pc L (.int j :: .ref a :: S)) := by
  subst hp
  exact own_go (fun t k => X.baloadBytes C.1 (by rw [eT]; exact A.1) (State.isArrayOf_alike C.2.2.1.alike A.2.1) A.2.2 hj hv (g := mkF m pc L (.int j :: .ref a :: S)) rfl rfl (hb C.2.1 hd) t k) K
theorem own_alen (C : own_C p s m c bytes own Z ml) (X : Stand p l e R s m args below meth c T locs cells slots) {a : Addr} {cl : Cell} {ty : FieldType} {z : Int32} (eT : T.heap = h) (A : Arr Z h a cl ty) (hz : cl.slots.size.toInt32 = z) (hd : decode bytes pc = .ok (.arraylength, 1)) (hp : pc + 1 = pc') (K : own_E p e below P T (mkF m pc' L (.int z :: S))) : own_E p e below P T (mkF m pc L (.ref a :: S)) := by
  subst hp hz
  exact own_go (fun t k => X.arraylength C.1 (by rw [eT]; exact A.1) (State.isArrayOf_alike C.2.2.1.alike A.2.1) (g := mkF m pc L (.ref a :: S)) rfl rfl (hb C.2.1 hd) t k) K
theorem own_iastore (C : own_C p s m c bytes own Z ml) (X : Stand p l e R s m args below meth c T locs cells slots) {a : Addr} {cl : Cell} {j : Int32} {x : Int32} (eT : T.heap = h) (A : Arr Z h a cl .int) (hj : ¬ (j < 0 ∨ cl.slots.size ≤ j.toNatClampNeg)) (hd : decode bytes pc = .ok (.iastore, 1)) (hp : pc + 1 = pc') (K : ∀ T' h', Stand p l e R s m args below meth c T' (locs ++ [⟨a, j.toNatClampNeg⟩]) cells slots → T'.heap = h' → Wr h h' a j.toNatClampNeg (.int x) → Arr Z h' a (cl.setSlot j.toNatClampNeg (.int x)) .int → own_E p e below P T' (mkF m pc' L S)) : own_E p e below P T (mkF m pc L (.int x :: .int j :: .ref a :: S)) := by
  subst hp
  obtain ⟨T', h', X', e', W', st⟩ := stI X C.1 C.2.2.1 eT A hj (g := mkF m pc L (.int x :: .int j :: .ref a :: S)) rfl rfl (hb C.2.1 hd)
  exact own_go st (K T' h' X' e' W' (A.same W'))
theorem own_lastore (C : own_C p s m c bytes own Z ml) (X : Stand p l e R s m args below meth c T locs cells slots) {a : Addr} {cl : Cell} {j : Int32} {x : Int64} (eT : T.heap = h) (A : Arr Z h a cl .long) (hj : ¬ (j < 0 ∨ cl.slots.size ≤ j.toNatClampNeg)) (hd : decode bytes pc = .ok (.lastore, 1)) (hp : pc + 1 = pc') (K : ∀ T' h', Stand p l e R s m args below meth c T' (locs ++ [⟨a, j.toNatClampNeg⟩]) cells slots → T'.heap = h' → Wr h h' a j.toNatClampNeg (.long x) → Arr Z h' a (cl.setSlot j.toNatClampNeg (.long x)) .long → own_E p e below P T' (mkF m pc' L S)) : own_E p e below P T (mkF m pc L (.long x :: .int j :: .ref a :: S)) := by
  subst hp
  obtain ⟨T', h', X', e', W', st⟩ := stJ X C.1 C.2.2.1 eT A hj (g := mkF m pc L (.long x :: .int j :: .ref a :: S)) rfl rfl (hb C.2.1 hd)
  exact own_go st (K T' h' X' e' W' (A.same W'))
theorem own_bastore (C : own_C p s m c bytes own Z ml) (X : Stand p l e R s m args below meth c T locs cells slots) {a : Addr} {cl : Cell} {j : Int32} {x : Int32} (eT : T.heap = h) (A : Arr Z h a cl .byte) (hj : ¬ (j < 0 ∨ cl.slots.size ≤ j.toNatClampNeg)) (hd : decode bytes pc = .ok (.bastore, 1)) (hp : pc + 1 = pc') (K : ∀ T' h', Stand p l e R s m args below meth c T' (locs ++ [⟨a, j.toNatClampNeg⟩]) cells slots → T'.heap = h' → Wr h h' a j.toNatClampNeg (.int (nar .byte x)) → Arr Z h' a (cl.setSlot j.toNatClampNeg (.int (nar .byte x))) .byte → own_E p e below P T' (mkF m pc' L S)) : own_E p e below P T (mkF m pc L (.int x :: .int j :: .ref a :: S)) := by
  subst hp
  obtain ⟨T', h', X', e', W', st⟩ := stB X C.1 C.2.2.1 eT A hj (g := mkF m pc L (.int x :: .int j :: .ref a :: S)) rfl rfl (hb C.2.1 hd)
  exact own_go st (K T' h' X' e' W' (A.same W'))
theorem own_newP (C : own_C p s m c bytes own Z ml) (X : Stand p l e R s m args below meth c T locs cells slots) {aty : ArrayType} {n : Int32} (cap : Nat) (w : (Cond.arrayClass (newarray.typeOf aty)).before a0 Z = true) (eT : T.heap = h) (hn : ¬ n < 0) (hcap : n.toNatClampNeg ≤ cap) (hb8 : cap * 8 ≤ 536870912) (hc : cells + 1 ≤ R.cells) (hl : slots + cap ≤ R.slots) (hd : decode bytes pc = .ok (.newarray aty, 2)) (hp : pc + 2 = pc') (K : ∀ T' h' a cA, Stand p l e R s m args below meth c T' locs (cells + 1) (slots + cap) → T'.heap = h' → a = h.size → Ext h h' → Arr Z h' a (newA cA (newarray.typeOf aty) n) (newarray.typeOf aty) → own_E p e below P T' (mkF m pc' L (.ref a :: S))) : own_E p e below P T (mkF m pc L (.int n :: S)) := by
  subst hp
  obtain ⟨T', h', cA, X', e', E', A', st⟩ := newP X C.1 C.2.2.1 w eT (g := mkF m pc L (.int n :: S)) rfl (hb C.2.1 hd) rfl hn (cap := cap) hcap hb8 hc hl
  exact own_go st (K T' h' _ cA X' e' rfl E' A')
theorem own_newO (C : own_C p s m c bytes own Z ml) (X : Stand p l e R s m args below meth c T locs cells slots) {Cn : String} {i n : Nat} (w : (Cond.classLink own i Cn).before a0 Z = true) (wi : (Cond.instantiable Cn n).before a0 Z = true) (wz : (Cond.initialized Cn).before a0 Z = true) (eT : T.heap = h) (hc : cells + 1 ≤ R.cells) (hl : slots + n ≤ R.slots) (hd : decode bytes pc = .ok (.new i, 3)) (hp : pc + 3 = pc') (K : ∀ T' h' a, Stand p l e R s m args below meth c T' locs (cells + 1) (slots + n) → T'.heap = h' → a = h.size → Ext h h' → Exa Z h' a Cn → (∀ {O nm d : String} {ty : FieldType}, Laid Z a0 Cn O nm d → parseFieldDescriptor d = some ty → Fld Z h' a O nm d (defaultValue ty)) → own_E p e below P T' (mkF m pc' L (.ref a :: S))) : own_E p e below P T (mkF m pc L S) := by
  subst hp
  obtain ⟨T', h', X', e', E', A', D', -, st⟩ := newO X C.1 C.2.2.1 C.2.2.2.1 w wi wz eT (g := mkF m pc L S) rfl (hb C.2.1 hd) hc hl
  exact own_go st (K T' h' _ X' e' rfl E' A' D')
theorem own_getF (C : own_C p s m c bytes own Z ml) (X : Stand p l e R s m args below meth c T locs cells slots) {R0 O n d : String} {i : Nat} {a : Addr} {v : Value} (w : (Cond.fieldLink own i R0 n d).before a0 Z = true) (via : Via Z R0 O n d) (eT : T.heap = h) (F : Fld Z h a O n d v) (hd : decode bytes pc = .ok (.getfield i, 3)) (hp : pc + 3 = pc') (K : ∀ T', Stand p l e R s m args below meth c T' locs cells slots → T'.heap = h → own_E p e below P T' (mkF m pc' L (v :: S))) : own_E p e below P T (mkF m pc L (.ref a :: S)) := by
  subst hp
  obtain ⟨T', X', e', st⟩ := getF X C.1 C.2.2.1 C.2.2.2.1 (host := "") (Or.inl w) via eT F (g := mkF m pc L (.ref a :: S)) rfl rfl (hb C.2.1 hd)
  exact own_go st (K T' X' e')
theorem own_putF (C : own_C p s m c bytes own Z ml) (X : Stand p l e R s m args below meth c T locs cells slots) {R0 O n d Cn : String} {i kk : Nat} {ty : FieldType} {a : Addr} {v old : Value} (w : (Cond.fieldLink own i R0 n d).before a0 Z = true) (via : Via Z R0 O n d) (eT : T.heap = h) (F : Fld Z h a O n d old) (Ex : Exa Z h a Cn) (Ly : (Cond.lays Cn O n d).before a0 Z = true ∨ ((Cond.laysFinal Cn O n d).before a0 Z = true ∧ own = O ∧ meth.name = "<init>")) (wi : (Cond.instantiable Cn kk).before a0 Z = true) (hty : parseFieldDescriptor d = some ty) (hn : narrow ty v = v) (hf : fits ty v = true) (hd : decode bytes pc = .ok (.putfield i, 3)) (hp : pc + 3 = pc') (K : ∀ T' h', Stand p l e R s m args below meth c T' (locs ++ [⟨a, Jvm.RoadKit.slotOf Z O n d⟩]) cells slots → T'.heap = h' → Wr h h' a (Jvm.RoadKit.slotOf Z O n d) v → Fld Z h' a O n d v → Exa Z h' a Cn → own_E p e below P T' (mkF m pc' L S)) : own_E p e below P T (mkF m pc L (v :: .ref a :: S)) := by
  subst hp
  obtain ⟨T', h', X', e', W', st⟩ := putF X C.1 C.2.2.1 C.2.2.2.1 (host := "") (Or.inl w) via eT F Ex Ly wi hty hn hf (g := mkF m pc L (v :: .ref a :: S)) rfl rfl (hb C.2.1 hd)
  exact own_go st (K T' h' X' e' W' (F.same W') (Ex.wr W'))
theorem own_callS (C : own_C p s m c bytes own Z ml) (X : Stand p l e R s m args below meth c T locs cells slots) {y : MethodName} {i mL : Nat} {cb : ByteArray} {rt : Option FieldType} {rm : Room} {as' : Array Value} {Q : Option Value → Heap → List Loc → Prop} {r : Value} (W : Nat) (argsL : List Value) (w1 : (Cond.methodLink own i y).before a0 Z = true) (w2 : (Cond.static y).before a0 Z = true) (w3 : (Cond.initialized y.cls).before a0 Z = true) (w4 : (Cond.code y cb mL rt).before a0 Z = true) (hy : y.cls ≠ "java/lang/invoke/MethodHandle" ∧ y.cls ≠ "java/lang/invoke/VarHandle") (eT : T.heap = h) (hM : MetFree l y (head1 [Cond.code y cb mL rt] rm) (fun a U => a = as' ∧ Z.Warmed39 U.vm ∧ U.heap = h) (fun _ _ _ _ _ => True) (fun _ U o U' => ∃ v L, o = .returned v ∧ Q v U'.heap L ∧ FrameEnd U o U' L rm.cells rm.slots)) (ha : argsL.toArray = as') (hf : rm.frames + 1 ≤ R.frames) (hlo : W + (mL + 11) + rm.locals ≤ R.locals) (hsz : L.size = ml) (hlen : ∀ sig, parseMethodDescriptor y.desc = some sig → argsL.length = sig.parameters.length) {S' : List Value} (hS : S' = argsL.reverse ++ S) (hW : (S.map fun v => v.category).sum ≤ W) (hc : cells + rm.cells ≤ R.cells) (hs : slots + rm.slots ≤ R.slots) (hd : decode bytes pc = .ok (.invokestatic i, 3)) (hp : pc + 3 = pc') (hr : ∀ v h L, Q v h L → v = some r) (K : ∀ T' Lc, Stand p l e R s m args below meth c T' (locs ++ Lc) (cells + rm.cells) (slots + rm.slots) → Q (some r) T'.heap Lc → own_E p e below P T' (mkF m pc' L (r :: S))) : own_E p e below P T (mkF m pc L S') := by
  subst hp hS ha
  obtain ⟨v, _, ⟨T', L1, k1, n1⟩, -, X', ⟨Lc, hQ, l1, y1, z1⟩, st⟩ := Jvm.LawKit.callS X C.1 (y := y) C.2.2.2.1 (mvT C.2.2.1 w1) (mvT C.2.2.1 w2) (mvT C.2.2.1 w3) (mvT C.2.2.1 w4) hy (backOf (W := W) hM C.2.2.1 w4 w3 hf hlo) (g := mkF m pc L (argsL.reverse ++ S)) rfl (hsz.trans C.2.2.2.2.symm) (argsL := argsL) (rest := S) hlen rfl (by show 2 * 0 + _ ≤ _; omega) (hb C.2.1 hd) (fun _ _ => ⟨rfl, eT, hc, hs⟩)
  dsimp only [Pt.U, Pt.locs, Pt.cells, Pt.slots] at X' l1 y1 z1 st hQ
  subst l1 y1 z1
  cases hr _ _ _ hQ
  exact own_go st (K T' Lc X' hQ)
theorem own_callI (C : own_C p s m c bytes own Z ml) (X : Stand p l e R s m args below meth c T locs cells slots) {y : MethodName} {i mL : Nat} {cb : ByteArray} {rm : Room} {as' : Array Value} {Q : Option Value → Heap → List Loc → Prop} {b : Addr} (W : Nat) (argsL : List Value) (w1 : (Cond.methodLink own i y).before a0 Z = true) (hy1 : y.name = "<init>") (w2 : (Cond.instanceMethod y).before a0 Z = true) (w3 : (Cond.initialized y.cls).before a0 Z = true) (w4 : (Cond.code y cb mL none).before a0 Z = true) (hy : y.cls ≠ "java/lang/invoke/MethodHandle" ∧ y.cls ≠ "java/lang/invoke/VarHandle") (eT : T.heap = h) (hM : MetFree l y (head1 [Cond.code y cb mL none] rm) (fun a U => a = as' ∧ Z.Warmed39 U.vm ∧ U.heap = h) (fun _ _ _ _ _ => True) (fun _ U o U' => ∃ v L, o = .returned v ∧ Q v U'.heap L ∧ FrameEnd U o U' L rm.cells rm.slots)) (ha : (.ref b :: argsL).toArray = as') (hf : rm.frames + 1 ≤ R.frames) (hlo : W + (mL + 11) + rm.locals ≤ R.locals) (hsz : L.size = ml) (hlen : ∀ sig, parseMethodDescriptor y.desc = some sig → argsL.length = sig.parameters.length) {S' : List Value} (hS : S' = argsL.reverse ++ .ref b :: S) (hW : (S.map fun v => v.category).sum ≤ W) (hc : cells + rm.cells ≤ R.cells) (hs : slots + rm.slots ≤ R.slots) (hd : decode bytes pc = .ok (.invokespecial i, 3)) (hp : pc + 3 = pc') (hr : ∀ v h L, Q v h L → v = none) (K : ∀ T' Lc, Stand p l e R s m args below meth c T' (locs ++ Lc) (cells + rm.cells) (slots + rm.slots) → Q (none) T'.heap Lc → own_E p e below P T' (mkF m pc' L S)) : own_E p e below P T (mkF m pc L S') := by
  subst hp hS ha
  obtain ⟨v, _, ⟨T', L1, k1, n1⟩, -, X', ⟨Lc, hQ, l1, y1, z1⟩, st⟩ := X.specialBack C.1 (y := y) hy1 C.2.2.2.1 (mvT C.2.2.1 w1) (mvT C.2.2.1 w2) (mvT C.2.2.1 w4) hy (backOf (W := W) hM C.2.2.1 w4 w3 hf hlo) (g := mkF m pc L (argsL.reverse ++ .ref b :: S)) rfl (hsz.trans C.2.2.2.2.symm) (Steps.refl _) (a := b) (argsL := argsL) (rest := S) hlen rfl (by show 2 * 0 + _ ≤ _; omega) (hb C.2.1 hd) (fun _ _ => ⟨rfl, eT, hc, hs⟩)
  dsimp only [Pt.U, Pt.locs, Pt.cells, Pt.slots] at X' l1 y1 z1 st hQ
  subst l1 y1 z1
  cases hr _ _ _ hQ
  obtain ⟨t, o, h1, h2⟩ := K T' Lc X' hQ
  exact ⟨t, o, st.trans h1, h2⟩
theorem own_callV (C : own_C p s m c bytes own Z ml) (X : Stand p l e R s m args below meth c T locs cells slots) {y : MethodName} {i mL : Nat} {cb : ByteArray} {rt : Option FieldType} {rm : Room} {as' : Array Value} {Q : Option Value → Heap → List Loc → Prop} {b : Addr} {Cn : String} {r : Value} (W : Nat) (argsL : List Value) (w1 : (Cond.methodLink own i y).before a0 Z = true) (w2 : (Cond.declares y).before a0 Z = true) (w5 : (Cond.selects Cn y y).before a0 Z = true) (w6 : (Cond.instanceMethod y).before a0 Z = true) (w3 : (Cond.initialized y.cls).before a0 Z = true) (w4 : (Cond.code y cb mL rt).before a0 Z = true) (Ex : Exa Z h b Cn) (hy : y.cls ≠ "java/lang/invoke/MethodHandle" ∧ y.cls ≠ "java/lang/invoke/VarHandle") (eT : T.heap = h) (hM : MetFree l y (head1 [Cond.code y cb mL rt] rm) (fun a U => a = as' ∧ Z.Warmed39 U.vm ∧ U.heap = h) (fun _ _ _ _ _ => True) (fun _ U o U' => ∃ v L, o = .returned v ∧ Q v U'.heap L ∧ FrameEnd U o U' L rm.cells rm.slots)) (ha : (.ref b :: argsL).toArray = as') (hf : rm.frames + 1 ≤ R.frames) (hlo : W + (mL + 11) + rm.locals ≤ R.locals) (hsz : L.size = ml) (hlen : ∀ sig, parseMethodDescriptor y.desc = some sig → argsL.length = sig.parameters.length) {S' : List Value} (hS : S' = argsL.reverse ++ .ref b :: S) (hW : (S.map fun v => v.category).sum ≤ W) (hc : cells + rm.cells ≤ R.cells) (hs : slots + rm.slots ≤ R.slots) (hd : decode bytes pc = .ok (.invokevirtual i, 3)) (hp : pc + 3 = pc') (hr : ∀ v h L, Q v h L → v = some r) (K : ∀ T' Lc, Stand p l e R s m args below meth c T' (locs ++ Lc) (cells + rm.cells) (slots + rm.slots) → Q (some r) T'.heap Lc → own_E p e below P T' (mkF m pc' L (r :: S))) : own_E p e below P T (mkF m pc L S') := by
  subst hp hS ha
  obtain ⟨cq, kq, qa, qb, qc⟩ := isOf C.2.2.1 eT Ex
  obtain ⟨v, _, ⟨T', L1, k1, n1⟩, -, X', ⟨Lc, hQ, l1, y1, z1⟩, st⟩ := X.virtualBack C.1 (y := y) (z := y) C.2.2.2.1 (mvT C.2.2.1 w1) (mvT C.2.2.1 w2) (notFace_of_selects (args := #[]) (mvT C.2.2.1 w5)) (mvT C.2.2.1 w5) (mvT C.2.2.1 w6) hy (backOf (W := W) hM C.2.2.1 w4 w3 hf hlo) qa qc (g := mkF m pc L (argsL.reverse ++ .ref b :: S)) rfl (hsz.trans C.2.2.2.2.symm) (Steps.refl _) (argsL := argsL) (rest := S) hlen rfl (by show 2 * 0 + _ ≤ _; omega) (hb C.2.1 hd) (fun _ _ => ⟨rfl, eT, hc, hs⟩)
  dsimp only [Pt.U, Pt.locs, Pt.cells, Pt.slots] at X' l1 y1 z1 st hQ
  subst l1 y1 z1
  cases hr _ _ _ hQ
  obtain ⟨t, o, h1, h2⟩ := K T' Lc X' hQ
  exact ⟨t, o, st.trans h1, h2⟩
theorem own_retI (C : own_C p s m c bytes own Z ml) (X : Stand p l e R s m args below meth c T locs cells slots) {Q : Option Value → Heap → List Loc → Prop} {k n : Nat} {z : Int32} (hret : meth.sig.returnType = some .int) (hl : meth.locks = false) (hk : cells ≤ k) (hn : slots ≤ n) (hd : decode bytes pc = .ok (.ireturn, 1)) (hQ : Q (some (.int z)) T.heap locs) : own_E p e below (own_R s below Q k n) T (mkF m pc L (.int z :: S)) := by
  obtain ⟨fs, hr, hrun, hended, hW, hsame⟩ := X.leave (v := some (.int z)) (fun h => by rw [hret] at h; cases h) hl
  exact ⟨_, _, retOut X C.1 hret rfl (Or.inl ⟨rfl, Or.inl rfl, _, rfl⟩) (hb C.2.1 hd) hr, hrun, hended, _, _, rfl, hQ, ⟨_, rfl⟩, hW, hsame.mono hk hn⟩
theorem own_retJ (C : own_C p s m c bytes own Z ml) (X : Stand p l e R s m args below meth c T locs cells slots) {Q : Option Value → Heap → List Loc → Prop} {k n : Nat} {z : Int64} (hret : meth.sig.returnType = some .long) (hl : meth.locks = false) (hk : cells ≤ k) (hn : slots ≤ n) (hd : decode bytes pc = .ok (.lreturn, 1)) (hQ : Q (some (.long z)) T.heap locs) : own_E p e below (own_R s below Q k n) T (mkF m pc L (.long z :: S)) := by
  obtain ⟨fs, hr, hrun, hended, hW, hsame⟩ := X.leave (v := some (.long z)) (fun h => by rw [hret] at h; cases h) hl
  exact ⟨_, _, retOut X C.1 hret rfl (Or.inr (Or.inl ⟨rfl, rfl, _, rfl⟩)) (hb C.2.1 hd) hr, hrun, hended, _, _, rfl, hQ, ⟨_, rfl⟩, hW, hsame.mono hk hn⟩
theorem own_retN (C : own_C p s m c bytes own Z ml) (X : Stand p l e R s m args below meth c T locs cells slots) {Q : Option Value → Heap → List Loc → Prop} {k n : Nat} {z : Int32} {t : FieldType} (hret : meth.sig.returnType = some t) (ht : t = .boolean ∨ t = .byte ∨ t = .char ∨ t = .short) (hl : meth.locks = false) (hk : cells ≤ k) (hn : slots ≤ n) (hd : decode bytes pc = .ok (.ireturn, 1)) (hQ : Q (some (.int (nar t z))) T.heap locs) : own_E p e below (own_R s below Q k n) T (mkF m pc L (.int z :: S)) := by
  obtain ⟨fs, hr, hrun, hended, hW, hsame⟩ := X.leave (v := some (.int (nar t z))) (fun h => by rw [hret] at h; cases h) hl
  exact ⟨_, _, retN X C.1 hret ht (hb C.2.1 hd) hr, hrun, hended, _, _, rfl, hQ, ⟨_, rfl⟩, hW, hsame.mono hk hn⟩
theorem own_retV (C : own_C p s m c bytes own Z ml) (X : Stand p l e R s m args below meth c T locs cells slots) {Q : Option Value → Heap → List Loc → Prop} {k n : Nat} (hret : meth.sig.returnType = none) (hl : meth.locks = false) (hk : cells ≤ k) (hn : slots ≤ n) (hd : decode bytes pc = .ok (.return_, 1)) (hQ : Q none T.heap locs) : own_E p e below (own_R s below Q k n) T (mkF m pc L []) := by
  obtain ⟨fs, hr, hrun, hended, hW, hsame⟩ := X.leave (v := none) (fun _ => rfl) hl
  exact ⟨_, _, X.returnOut C.1 hret (hb C.2.1 hd) hr, hrun, hended, _, _, rfl, hQ, ⟨_, rfl⟩, hW, hsame.mono hk hn⟩
theorem own_iinc (C : own_C p s m c bytes own Z ml) (X : Stand p l e R s m args below meth c T locs cells slots) {k : Nat} {ct : Int} {v : Int32} (hd : decode bytes pc = .ok (.iinc k ct, 3)) (hl : L[k]? = some (.val (.int v))) (hl' : storeLocals L k (.int (v + Int32.ofInt ct)) = some L') (hp : pc + 3 = pc') (K : own_E p e below P T (mkF m pc' L' S)) : own_E p e below P T (mkF m pc L S) := by
  subst hp
  exact own_go (fun t k => XS.iinc X.here C.1 rfl (hb C.2.1 hd) hl hl' k) K
theorem own_ldcwI (C : own_C p s m c bytes own Z ml) (X : Stand p l e R s m args below meth c T locs cells slots) {i : Nat} {v : Int32} (w : (Cond.constant own i v).before a0 Z = true) (hd : decode bytes pc = .ok (.ldc_w i, 3)) (hp : pc + 3 = pc') (K : own_E p e below P T (mkF m pc' L (.int v :: S))) : own_E p e below P T (mkF m pc L S) := by
  subst hp
  exact own_go (fun t k => X.ldcwInt C.1 C.2.2.2.1 (mvT C.2.2.1 w) (g := mkF m pc L S) rfl (hb C.2.1 hd) t k) K
theorem own_retA (C : own_C p s m c bytes own Z ml) (X : Stand p l e R s m args below meth c T locs cells slots) {Q : Option Value → Heap → List Loc → Prop} {k n : Nat} {z : Addr} {ty : FieldType} (hret : meth.sig.returnType = some (.array ty)) (hl : meth.locks = false) (hk : cells ≤ k) (hn : slots ≤ n) (hd : decode bytes pc = .ok (.areturn, 1)) (hQ : Q (some (.ref z)) T.heap locs) : own_E p e below (own_R s below Q k n) T (mkF m pc L (.ref z :: S)) := by
  obtain ⟨fs, hr, hrun, hended, hW, hsame⟩ := X.leave (v := some (.ref z)) (fun h => by rw [hret] at h; cases h) hl
  exact ⟨_, _, retOut X C.1 hret rfl (Or.inr (Or.inr (Or.inr (Or.inr ⟨rfl, rfl, rfl⟩)))) (hb C.2.1 hd) hr, hrun, hended, _, _, rfl, hQ, ⟨_, rfl⟩, hW, hsame.mono hk hn⟩
theorem own_arrK {a : Addr} {cl : Cell} {ty : FieldType} {h' : Heap} {ws : List Addr} (A : Arr Z h a cl ty) (K : Keep h h' ws) (q : a ∉ ws) : Arr Z h' a cl ty := ⟨K.2.1 a cl A.1 q, A.2⟩
theorem own_ne {a b : Addr} (hl : a < h.size) (g : b = h.size) : a ≠ b := fun q => by rw [q, g] at hl; exact Nat.lt_irrefl _ hl
theorem own_idx {j : Int32} {cl : Cell} {n : Nat} (S : cl.slots.size = n) (h0 : 0 ≤ j.toInt) (h1 : j.toInt < n) : ¬ (j < 0 ∨ cl.slots.size ≤ j.toNatClampNeg) := by
  have z : (0 : Int32).toInt = 0 := rfl
  rw [S, Int32.lt_iff_toInt_lt, z]
  simp only [Int32.toNatClampNeg]
  omega
theorem own_set {cl : Cell} {i j : Nat} {v : Value} (hi : i < cl.slots.size) : (cl.setSlot i v).slots[j]? = if i = j then some v else cl.slots[j]? := by
  simp only [Cell.setSlot, Array.getElem?_setIfInBounds]
  split <;> simp [hi]
theorem own_setS {cl : Cell} {i n : Nat} {v : Value} (S : cl.slots.size = n) : (cl.setSlot i v).slots.size = n := by
  simp [Cell.setSlot, S]
theorem own_initO (C : own_C p s m c bytes own Z ml) (X : Stand p l e R s m args below meth c T locs cells slots) {i : Nat} {a : Addr} (W : Nat) (w1 : (Cond.methodLink own i Lib.objectInit).before a0 Z = true) (w2 : (Cond.instanceMethod Lib.objectInit).before a0 Z = true) (w3 : (Cond.code Lib.objectInit object_method_1_code 1 none).before a0 Z = true) (eT : T.heap = h) (hsz : L.size = ml) (hf : 1 ≤ R.frames) (hW : (S.map fun v => v.category).sum ≤ W) (hl : W + 12 ≤ R.locals) (hd : decode bytes pc = .ok (.invokespecial i, 3)) (hp : pc + 3 = pc') (K : ∀ T', Stand p l e R s m args below meth c T' locs cells slots → T'.heap = h → own_E p e below P T' (mkF m pc' L S)) : own_E p e below P T (mkF m pc L (.ref a :: S)) := by
  subst hp
  obtain ⟨T', X', e', st⟩ := initO X C.1 C.2.2.1 C.2.2.2.1 w1 w2 w3 eT (g := mkF m pc L (.ref a :: S)) rfl (hsz.trans C.2.2.2.2.symm) rfl (hb C.2.1 hd) hf (W := W) (by show 2 * 0 + _ ≤ _; omega) hl
  exact own_go st (K T' X' e')
end Own

def own_sh (z : Int64) (k : Int32) : Int64 := (z.toUInt64 >>> (k &&& 0x3f).toInt64.toUInt64).toInt64
def own_m1 (w : Int64) : Int64 := (w ^^^ own_sh w 30) * (-4658895280553007687 : Int64)
def own_m2 (w : Int64) : Int64 := (w ^^^ own_sh w 27) * (-7723592293110705685 : Int64)
def own_m3 (w : Int64) : Int64 := w ^^^ own_sh w 31
def own_nw (a x : Int64) : Int64 := x * (2 - a * x)
def own_inv (a : Int64) : Int64 := own_nw a (own_nw a (own_nw a (own_nw a (own_nw a a))))
def own_u3 (o : Int64) : Int64 := (o ^^^ own_sh o 31) ^^^ own_sh o 62
def own_u2 (o : Int64) : Int64 := (o ^^^ own_sh o 27) ^^^ own_sh o 54
def own_u1 (o : Int64) : Int64 := (o ^^^ own_sh o 30) ^^^ own_sh o 60
def own_mix (w : Int64) : Int64 := own_m3 (own_m2 (own_m1 w))
def own_unmix (o : Int64) : Int64 := own_u1 (own_u2 (own_u3 o * own_inv (-7723592293110705685 : Int64)) * own_inv (-4658895280553007687 : Int64))
theorem own_shB (z : Int64) (k : Int32) (n : Nat) (hk : (k &&& 0x3f).toInt64.toUInt64.toBitVec = BitVec.ofNat 64 n) (hn : n < 64) : (own_sh z k).toBitVec = z.toBitVec >>> n := by
  show z.toBitVec >>> (((k &&& 0x3f).toInt64.toUInt64.toBitVec) % 64) = _
  rw [hk]
  apply BitVec.eq_of_toNat_eq
  rw [BitVec.ushiftRight_eq', BitVec.toNat_ushiftRight, BitVec.toNat_ushiftRight, BitVec.toNat_umod, BitVec.toNat_ofNat]
  have : n % 2 ^ 64 % BitVec.toNat (64 : BitVec 64) = n := by
    show n % 2 ^ 64 % 64 = n
    omega
  rw [this]
theorem own_xs (z : BitVec 64) (n : Nat) (hn : 64 ≤ n + n + n) : ((z ^^^ z >>> n) ^^^ (z ^^^ z >>> n) >>> n) ^^^ (z ^^^ z >>> n) >>> (n + n) = z := by
  apply BitVec.eq_of_getLsbD_eq
  intro i hi
  simp only [BitVec.getLsbD_xor, BitVec.getLsbD_ushiftRight]
  have h3 : z.getLsbD (n + (n + n + i)) = false := BitVec.getLsbD_of_ge _ _ (by omega)
  have h4 : n + n + i = n + (n + i) := by omega
  rw [h3, h4]
  cases z.getLsbD i <;> cases z.getLsbD (n + i) <;> cases z.getLsbD (n + (n + i)) <;> rfl
theorem own_x3 (w : Int64) : own_u3 (own_m3 w) = w := by
  apply Int64.toBitVec_inj.mp
  have a1 := own_shB w 31 31 (by decide) (by decide)
  have a2 := own_shB (w ^^^ own_sh w 31) 31 31 (by decide) (by decide)
  have a3 := own_shB (w ^^^ own_sh w 31) 62 62 (by decide) (by decide)
  show (((w ^^^ own_sh w 31) ^^^ own_sh (w ^^^ own_sh w 31) 31) ^^^ own_sh (w ^^^ own_sh w 31) 62).toBitVec = w.toBitVec
  rw [Int64.toBitVec_xor, Int64.toBitVec_xor, a2, a3, Int64.toBitVec_xor, a1]
  exact own_xs w.toBitVec 31 (by decide)
theorem own_x2 (w : Int64) : own_u2 (w ^^^ own_sh w 27) = w := by
  apply Int64.toBitVec_inj.mp
  have a1 := own_shB w 27 27 (by decide) (by decide)
  have a2 := own_shB (w ^^^ own_sh w 27) 27 27 (by decide) (by decide)
  have a3 := own_shB (w ^^^ own_sh w 27) 54 54 (by decide) (by decide)
  show (((w ^^^ own_sh w 27) ^^^ own_sh (w ^^^ own_sh w 27) 27) ^^^ own_sh (w ^^^ own_sh w 27) 54).toBitVec = w.toBitVec
  rw [Int64.toBitVec_xor, Int64.toBitVec_xor, a2, a3, Int64.toBitVec_xor, a1]
  exact own_xs w.toBitVec 27 (by decide)
theorem own_x1 (w : Int64) : own_u1 (w ^^^ own_sh w 30) = w := by
  apply Int64.toBitVec_inj.mp
  have a1 := own_shB w 30 30 (by decide) (by decide)
  have a2 := own_shB (w ^^^ own_sh w 30) 30 30 (by decide) (by decide)
  have a3 := own_shB (w ^^^ own_sh w 30) 60 60 (by decide) (by decide)
  show (((w ^^^ own_sh w 30) ^^^ own_sh (w ^^^ own_sh w 30) 30) ^^^ own_sh (w ^^^ own_sh w 30) 60).toBitVec = w.toBitVec
  rw [Int64.toBitVec_xor, Int64.toBitVec_xor, a2, a3, Int64.toBitVec_xor, a1]
  exact own_xs w.toBitVec 30 (by decide)
theorem own_i1 : (-4658895280553007687 : Int64) * own_inv (-4658895280553007687 : Int64) = 1 := by decide +kernel
theorem own_i2 : (-7723592293110705685 : Int64) * own_inv (-7723592293110705685 : Int64) = 1 := by decide +kernel
theorem own_round (w : Int64) : own_unmix (own_mix w) = w := by
  show own_u1 (own_u2 (own_u3 (own_m3 (own_m2 (own_m1 w))) * own_inv _) * own_inv _) = w
  rw [own_x3]
  show own_u1 (own_u2 ((own_m1 w ^^^ own_sh (own_m1 w) 27) * (-7723592293110705685 : Int64) * own_inv (-7723592293110705685 : Int64)) * own_inv _) = w
  rw [Int64.mul_assoc, own_i2, Int64.mul_one, own_x2]
  show own_u1 ((w ^^^ own_sh w 30) * (-4658895280553007687 : Int64) * own_inv (-4658895280553007687 : Int64)) = w
  rw [Int64.mul_assoc, own_i1, Int64.mul_one, own_x1]
theorem d5_0 : decode method_2_code 0 = .ok (.lload_n 0, 1) := by decide +kernel
theorem d5_1 : decode method_2_code 1 = .ok (.lstore_n 2, 1) := by decide +kernel
theorem d5_2 : decode method_2_code 2 = .ok (.lload_n 2, 1) := by decide +kernel
theorem d5_3 : decode method_2_code 3 = .ok (.ldc2_w 7, 3) := by decide +kernel
theorem d5_6 : decode method_2_code 6 = .ok (.lload_n 0, 1) := by decide +kernel
theorem d5_7 : decode method_2_code 7 = .ok (.lload_n 2, 1) := by decide +kernel
theorem d5_8 : decode method_2_code 8 = .ok (.lmul, 1) := by decide +kernel
theorem d5_9 : decode method_2_code 9 = .ok (.lsub, 1) := by decide +kernel
theorem d5_10 : decode method_2_code 10 = .ok (.lmul, 1) := by decide +kernel
theorem d5_11 : decode method_2_code 11 = .ok (.lstore_n 2, 1) := by decide +kernel
theorem d5_12 : decode method_2_code 12 = .ok (.lload_n 2, 1) := by decide +kernel
theorem d5_13 : decode method_2_code 13 = .ok (.ldc2_w 7, 3) := by decide +kernel
theorem d5_16 : decode method_2_code 16 = .ok (.lload_n 0, 1) := by decide +kernel
theorem d5_17 : decode method_2_code 17 = .ok (.lload_n 2, 1) := by decide +kernel
theorem d5_18 : decode method_2_code 18 = .ok (.lmul, 1) := by decide +kernel
theorem d5_19 : decode method_2_code 19 = .ok (.lsub, 1) := by decide +kernel
theorem d5_20 : decode method_2_code 20 = .ok (.lmul, 1) := by decide +kernel
theorem d5_21 : decode method_2_code 21 = .ok (.lstore_n 2, 1) := by decide +kernel
theorem d5_22 : decode method_2_code 22 = .ok (.lload_n 2, 1) := by decide +kernel
theorem d5_23 : decode method_2_code 23 = .ok (.ldc2_w 7, 3) := by decide +kernel
theorem d5_26 : decode method_2_code 26 = .ok (.lload_n 0, 1) := by decide +kernel
theorem d5_27 : decode method_2_code 27 = .ok (.lload_n 2, 1) := by decide +kernel
theorem d5_28 : decode method_2_code 28 = .ok (.lmul, 1) := by decide +kernel
theorem d5_29 : decode method_2_code 29 = .ok (.lsub, 1) := by decide +kernel
theorem d5_30 : decode method_2_code 30 = .ok (.lmul, 1) := by decide +kernel
theorem d5_31 : decode method_2_code 31 = .ok (.lstore_n 2, 1) := by decide +kernel
theorem d5_32 : decode method_2_code 32 = .ok (.lload_n 2, 1) := by decide +kernel
theorem d5_33 : decode method_2_code 33 = .ok (.ldc2_w 7, 3) := by decide +kernel
theorem d5_36 : decode method_2_code 36 = .ok (.lload_n 0, 1) := by decide +kernel
theorem d5_37 : decode method_2_code 37 = .ok (.lload_n 2, 1) := by decide +kernel
theorem d5_38 : decode method_2_code 38 = .ok (.lmul, 1) := by decide +kernel
theorem d5_39 : decode method_2_code 39 = .ok (.lsub, 1) := by decide +kernel
theorem d5_40 : decode method_2_code 40 = .ok (.lmul, 1) := by decide +kernel
theorem d5_41 : decode method_2_code 41 = .ok (.lstore_n 2, 1) := by decide +kernel
theorem d5_42 : decode method_2_code 42 = .ok (.lload_n 2, 1) := by decide +kernel
theorem d5_43 : decode method_2_code 43 = .ok (.ldc2_w 7, 3) := by decide +kernel
theorem d5_46 : decode method_2_code 46 = .ok (.lload_n 0, 1) := by decide +kernel
theorem d5_47 : decode method_2_code 47 = .ok (.lload_n 2, 1) := by decide +kernel
theorem d5_48 : decode method_2_code 48 = .ok (.lmul, 1) := by decide +kernel
theorem d5_49 : decode method_2_code 49 = .ok (.lsub, 1) := by decide +kernel
theorem d5_50 : decode method_2_code 50 = .ok (.lmul, 1) := by decide +kernel
theorem d5_51 : decode method_2_code 51 = .ok (.lstore_n 2, 1) := by decide +kernel
theorem d5_52 : decode method_2_code 52 = .ok (.lload_n 2, 1) := by decide +kernel
theorem d5_53 : decode method_2_code 53 = .ok (.lreturn, 1) := by decide +kernel
theorem pn_5 : plainName "com/example/isolith/isolith/history/SplitMix64NextLongPinLaw" = true := by first | (simp [plainName, overriddenIn]; done) | decide +kernel
def Q5 (Z : State) (q1 : Int64) (h0 : Heap) (n0 : Nat) (v : Option Value) (h : Heap) (L : List Loc) : Prop := v = some (.long (own_inv q1)) ∧ Fr n0 L ∧ h = h0
theorem ef_5 (m : MethodId) (q1 : Int64) : entryFrame m #[(.long q1)] 4 = mkF m 0 #[.val (.long q1), .second, .unset, .unset] [] := by first | (simp [entryFrame, mkF, argsToLocals, Value.category]; done) | rfl
set_option maxRecDepth 65536 in
set_option maxHeartbeats 40000000 in
theorem rm5 (l : Launch) (Z : State) (a0 : Array Value) (hw : ∀ d ∈ tables_1, d.before a0 Z = true) (ws : List Jvm.Cond) (q1 : Int64) (h0 : Heap) (n0 : Nat) (Z0 : n0 ≤ h0.size)  :
    MetFree l (⟨"com/example/isolith/isolith/history/SplitMix64NextLongPinLaw", "inverse", "(J)J"⟩ : MethodName) (head1 (Jvm.Cond.code (⟨"com/example/isolith/isolith/history/SplitMix64NextLongPinLaw", "inverse", "(J)J"⟩ : MethodName) method_2_code 4 (some .long) :: ws) ({ frames := 0, cells := 0, slots := 0, locals := 0 } : Room)) (fun a U => a = #[(.long q1)] ∧ Z.Warmed39 U.vm ∧ U.heap = h0) (fun _ _ _ _ _ => True) (fun _ U o U' => ∃ v L, o = .returned v ∧ Q5 Z q1 h0 n0 v U'.heap L ∧ FrameEnd U o U' L ({ frames := 0, cells := 0, slots := 0, locals := 0 } : Room).cells ({ frames := 0, cells := 0, slots := 0, locals := 0 } : Room).slots) := by
  refine MetFree.of_bodySF (plainFor_of_name pn_5) hisR ?_
  intro p e s m args below meth c s₁ Bd hml0 hP hK
  obtain ⟨rfl, hZ, hh⟩ := hP
  have hnm := (name_of_methodNamed Bd.named Bd.method).1
  have C : own_C p s m c method_2_code "com/example/isolith/isolith/history/SplitMix64NextLongPinLaw" Z 4 := ⟨Bd.exec, Bd.bytes, hZ, findClass_of_methodNamed Bd.named, hml0⟩
  have X0 : Stand p l e ({ frames := 0, cells := 0, slots := 0, locals := 0 } : Room) s m #[(.long q1)] below meth c s₁ [] 0 0 := Stand.of_body Bd
  have e0 : s₁.heap = h0 := by rw [← hh, Bd.state]; rfl
  have N0 := Fr.nil n0
  show own_E p e below (own_R s below (Q5 Z q1 h0 n0) ({ frames := 0, cells := 0, slots := 0, locals := 0 } : Room).cells ({ frames := 0, cells := 0, slots := 0, locals := 0 } : Room).slots) s₁ (entryFrame m #[(.long q1)] 4)
  rw [ef_5]
  refine own_lloadN C X0 d5_0 rfl rfl ?_
  refine own_lstoreN (L' := #[_, _, _, _]) C X0 d5_1 rfl rfl ?_
  refine own_lloadN C X0 d5_2 rfl rfl ?_
  refine own_ldcJ C X0 (hw _ (List.mem_of_getElem? (i := 27) rfl)) d5_3 rfl ?_
  refine own_lloadN C X0 d5_6 rfl rfl ?_
  refine own_lloadN C X0 d5_7 rfl rfl ?_
  refine own_lmul C X0 d5_8 rfl ?_
  refine own_lsub C X0 d5_9 rfl ?_
  refine own_lmul C X0 d5_10 rfl ?_
  refine own_lstoreN (L' := #[_, _, _, _]) C X0 d5_11 rfl rfl ?_
  refine own_lloadN C X0 d5_12 rfl rfl ?_
  refine own_ldcJ C X0 (hw _ (List.mem_of_getElem? (i := 27) rfl)) d5_13 rfl ?_
  refine own_lloadN C X0 d5_16 rfl rfl ?_
  refine own_lloadN C X0 d5_17 rfl rfl ?_
  refine own_lmul C X0 d5_18 rfl ?_
  refine own_lsub C X0 d5_19 rfl ?_
  refine own_lmul C X0 d5_20 rfl ?_
  refine own_lstoreN (L' := #[_, _, _, _]) C X0 d5_21 rfl rfl ?_
  refine own_lloadN C X0 d5_22 rfl rfl ?_
  refine own_ldcJ C X0 (hw _ (List.mem_of_getElem? (i := 27) rfl)) d5_23 rfl ?_
  refine own_lloadN C X0 d5_26 rfl rfl ?_
  refine own_lloadN C X0 d5_27 rfl rfl ?_
  refine own_lmul C X0 d5_28 rfl ?_
  refine own_lsub C X0 d5_29 rfl ?_
  refine own_lmul C X0 d5_30 rfl ?_
  refine own_lstoreN (L' := #[_, _, _, _]) C X0 d5_31 rfl rfl ?_
  refine own_lloadN C X0 d5_32 rfl rfl ?_
  refine own_ldcJ C X0 (hw _ (List.mem_of_getElem? (i := 27) rfl)) d5_33 rfl ?_
  refine own_lloadN C X0 d5_36 rfl rfl ?_
  refine own_lloadN C X0 d5_37 rfl rfl ?_
  refine own_lmul C X0 d5_38 rfl ?_
  refine own_lsub C X0 d5_39 rfl ?_
  refine own_lmul C X0 d5_40 rfl ?_
  refine own_lstoreN (L' := #[_, _, _, _]) C X0 d5_41 rfl rfl ?_
  refine own_lloadN C X0 d5_42 rfl rfl ?_
  refine own_ldcJ C X0 (hw _ (List.mem_of_getElem? (i := 27) rfl)) d5_43 rfl ?_
  refine own_lloadN C X0 d5_46 rfl rfl ?_
  refine own_lloadN C X0 d5_47 rfl rfl ?_
  refine own_lmul C X0 d5_48 rfl ?_
  refine own_lsub C X0 d5_49 rfl ?_
  refine own_lmul C X0 d5_50 rfl ?_
  refine own_lstoreN (L' := #[_, _, _, _]) C X0 d5_51 rfl rfl ?_
  refine own_lloadN C X0 d5_52 rfl rfl ?_
  exact own_retJ C X0 Bd.returns Bd.notSynchronized (by decide) (by decide) d5_53 ⟨rfl, N0, e0⟩
theorem d4_0 : decode method_3_code 0 = .ok (.lload_n 0, 1) := by decide +kernel
theorem d4_1 : decode method_3_code 1 = .ok (.lload_n 0, 1) := by decide +kernel
theorem d4_2 : decode method_3_code 2 = .ok (.bipush 31, 2) := by decide +kernel
theorem d4_4 : decode method_3_code 4 = .ok (.lushr, 1) := by decide +kernel
theorem d4_5 : decode method_3_code 5 = .ok (.lxor, 1) := by decide +kernel
theorem d4_6 : decode method_3_code 6 = .ok (.lload_n 0, 1) := by decide +kernel
theorem d4_7 : decode method_3_code 7 = .ok (.bipush 62, 2) := by decide +kernel
theorem d4_9 : decode method_3_code 9 = .ok (.lushr, 1) := by decide +kernel
theorem d4_10 : decode method_3_code 10 = .ok (.lxor, 1) := by decide +kernel
theorem d4_11 : decode method_3_code 11 = .ok (.lstore_n 2, 1) := by decide +kernel
theorem d4_12 : decode method_3_code 12 = .ok (.lload_n 2, 1) := by decide +kernel
theorem d4_13 : decode method_3_code 13 = .ok (.ldc2_w 11, 3) := by decide +kernel
theorem d4_16 : decode method_3_code 16 = .ok (.invokestatic 13, 3) := by decide +kernel
theorem d4_19 : decode method_3_code 19 = .ok (.lmul, 1) := by decide +kernel
theorem d4_20 : decode method_3_code 20 = .ok (.lstore 4, 2) := by decide +kernel
theorem d4_22 : decode method_3_code 22 = .ok (.lload 4, 2) := by decide +kernel
theorem d4_24 : decode method_3_code 24 = .ok (.lload 4, 2) := by decide +kernel
theorem d4_26 : decode method_3_code 26 = .ok (.bipush 27, 2) := by decide +kernel
theorem d4_28 : decode method_3_code 28 = .ok (.lushr, 1) := by decide +kernel
theorem d4_29 : decode method_3_code 29 = .ok (.lxor, 1) := by decide +kernel
theorem d4_30 : decode method_3_code 30 = .ok (.lload 4, 2) := by decide +kernel
theorem d4_32 : decode method_3_code 32 = .ok (.bipush 54, 2) := by decide +kernel
theorem d4_34 : decode method_3_code 34 = .ok (.lushr, 1) := by decide +kernel
theorem d4_35 : decode method_3_code 35 = .ok (.lxor, 1) := by decide +kernel
theorem d4_36 : decode method_3_code 36 = .ok (.lstore 6, 2) := by decide +kernel
theorem d4_38 : decode method_3_code 38 = .ok (.lload 6, 2) := by decide +kernel
theorem d4_40 : decode method_3_code 40 = .ok (.ldc2_w 17, 3) := by decide +kernel
theorem d4_43 : decode method_3_code 43 = .ok (.invokestatic 13, 3) := by decide +kernel
theorem d4_46 : decode method_3_code 46 = .ok (.lmul, 1) := by decide +kernel
theorem d4_47 : decode method_3_code 47 = .ok (.lstore 8, 2) := by decide +kernel
theorem d4_49 : decode method_3_code 49 = .ok (.lload 8, 2) := by decide +kernel
theorem d4_51 : decode method_3_code 51 = .ok (.lload 8, 2) := by decide +kernel
theorem d4_53 : decode method_3_code 53 = .ok (.bipush 30, 2) := by decide +kernel
theorem d4_55 : decode method_3_code 55 = .ok (.lushr, 1) := by decide +kernel
theorem d4_56 : decode method_3_code 56 = .ok (.lxor, 1) := by decide +kernel
theorem d4_57 : decode method_3_code 57 = .ok (.lload 8, 2) := by decide +kernel
theorem d4_59 : decode method_3_code 59 = .ok (.bipush 60, 2) := by decide +kernel
theorem d4_61 : decode method_3_code 61 = .ok (.lushr, 1) := by decide +kernel
theorem d4_62 : decode method_3_code 62 = .ok (.lxor, 1) := by decide +kernel
theorem d4_63 : decode method_3_code 63 = .ok (.lreturn, 1) := by decide +kernel
theorem pd_J : parseMethodDescriptor "(J)J" = some ⟨[.long], some .long⟩ := by decide +kernel
theorem pn_4 : plainName "com/example/isolith/isolith/history/SplitMix64NextLongPinLaw" = true := by first | (simp [plainName, overriddenIn]; done) | decide +kernel
def Q4 (Z : State) (q1 : Int64) (h0 : Heap) (n0 : Nat) (v : Option Value) (h : Heap) (L : List Loc) : Prop := v = some (.long (own_unmix q1)) ∧ Fr n0 L ∧ h = h0
theorem ef_4 (m : MethodId) (q1 : Int64) : entryFrame m #[(.long q1)] 10 = mkF m 0 #[.val (.long q1), .second, .unset, .unset, .unset, .unset, .unset, .unset, .unset, .unset] [] := by first | (simp [entryFrame, mkF, argsToLocals, Value.category]; done) | rfl
set_option maxRecDepth 65536 in
set_option maxHeartbeats 40000000 in
theorem rm4 (l : Launch) (Z : State) (a0 : Array Value) (hw : ∀ d ∈ tables_1, d.before a0 Z = true) (ws : List Jvm.Cond) (q1 : Int64) (h0 : Heap) (n0 : Nat) (Z0 : n0 ≤ h0.size)  :
    MetFree l (⟨"com/example/isolith/isolith/history/SplitMix64NextLongPinLaw", "unmix", "(J)J"⟩ : MethodName) (head1 (Jvm.Cond.code (⟨"com/example/isolith/isolith/history/SplitMix64NextLongPinLaw", "unmix", "(J)J"⟩ : MethodName) method_3_code 10 (some .long) :: ws) ({ frames := 1, cells := 0, slots := 0, locals := 17 } : Room)) (fun a U => a = #[(.long q1)] ∧ Z.Warmed39 U.vm ∧ U.heap = h0) (fun _ _ _ _ _ => True) (fun _ U o U' => ∃ v L, o = .returned v ∧ Q4 Z q1 h0 n0 v U'.heap L ∧ FrameEnd U o U' L ({ frames := 1, cells := 0, slots := 0, locals := 17 } : Room).cells ({ frames := 1, cells := 0, slots := 0, locals := 17 } : Room).slots) := by
  refine MetFree.of_bodySF (plainFor_of_name pn_4) hisR ?_
  intro p e s m args below meth c s₁ Bd hml0 hP hK
  obtain ⟨rfl, hZ, hh⟩ := hP
  have hnm := (name_of_methodNamed Bd.named Bd.method).1
  have C : own_C p s m c method_3_code "com/example/isolith/isolith/history/SplitMix64NextLongPinLaw" Z 10 := ⟨Bd.exec, Bd.bytes, hZ, findClass_of_methodNamed Bd.named, hml0⟩
  have X0 : Stand p l e ({ frames := 1, cells := 0, slots := 0, locals := 17 } : Room) s m #[(.long q1)] below meth c s₁ [] 0 0 := Stand.of_body Bd
  have e0 : s₁.heap = h0 := by rw [← hh, Bd.state]; rfl
  have N0 := Fr.nil n0
  show own_E p e below (own_R s below (Q4 Z q1 h0 n0) ({ frames := 1, cells := 0, slots := 0, locals := 17 } : Room).cells ({ frames := 1, cells := 0, slots := 0, locals := 17 } : Room).slots) s₁ (entryFrame m #[(.long q1)] 10)
  rw [ef_4]
  refine own_lloadN C X0 d4_0 rfl rfl ?_
  refine own_lloadN C X0 d4_1 rfl rfl ?_
  refine own_bipush C X0 (31) d4_2 rfl rfl ?_
  refine own_lushr C X0 d4_4 rfl ?_
  refine own_lxor C X0 d4_5 rfl ?_
  refine own_lloadN C X0 d4_6 rfl rfl ?_
  refine own_bipush C X0 (62) d4_7 rfl rfl ?_
  refine own_lushr C X0 d4_9 rfl ?_
  refine own_lxor C X0 d4_10 rfl ?_
  refine own_lstoreN (L' := #[_, _, _, _, _, _, _, _, _, _]) C X0 d4_11 rfl rfl ?_
  refine own_lloadN C X0 d4_12 rfl rfl ?_
  refine own_ldcJ C X0 (hw _ (List.mem_of_getElem? (i := 23) rfl)) d4_13 rfl ?_
  refine own_callS C X0 2 [.long (-7723592293110705685 : Int64)] (hw _ (List.mem_of_getElem? (i := 24) rfl)) (hw _ (List.mem_of_getElem? (i := 25) rfl)) (hw _ (List.mem_of_getElem? (i := 21) rfl)) (hw _ (List.mem_of_getElem? (i := 26) rfl)) (by decide) e0 (rm5 l Z a0 hw [] (-7723592293110705685 : Int64) h0 n0 Z0) rfl (by decide) (by decide) rfl (lenOf pd_J rfl) rfl (Nat.le_of_eq rfl) (by decide) (by decide) d4_16 rfl (fun _ _ _ q => q.1) fun T1_ L1_ X1_ Q1_ => ?_
  obtain ⟨-, N1_, H1_⟩ := Q1_
  refine own_lmul C X1_ d4_19 rfl ?_
  refine own_lstore (L' := #[_, _, _, _, _, _, _, _, _, _]) C X1_ d4_20 rfl rfl ?_
  refine own_lload C X1_ d4_22 rfl rfl ?_
  refine own_lload C X1_ d4_24 rfl rfl ?_
  refine own_bipush C X1_ (27) d4_26 rfl rfl ?_
  refine own_lushr C X1_ d4_28 rfl ?_
  refine own_lxor C X1_ d4_29 rfl ?_
  refine own_lload C X1_ d4_30 rfl rfl ?_
  refine own_bipush C X1_ (54) d4_32 rfl rfl ?_
  refine own_lushr C X1_ d4_34 rfl ?_
  refine own_lxor C X1_ d4_35 rfl ?_
  refine own_lstore (L' := #[_, _, _, _, _, _, _, _, _, _]) C X1_ d4_36 rfl rfl ?_
  refine own_lload C X1_ d4_38 rfl rfl ?_
  refine own_ldcJ C X1_ (hw _ (List.mem_of_getElem? (i := 28) rfl)) d4_40 rfl ?_
  refine own_callS C X1_ 2 [.long (-4658895280553007687 : Int64)] (hw _ (List.mem_of_getElem? (i := 24) rfl)) (hw _ (List.mem_of_getElem? (i := 25) rfl)) (hw _ (List.mem_of_getElem? (i := 21) rfl)) (hw _ (List.mem_of_getElem? (i := 26) rfl)) (by decide) rfl (rm5 l Z a0 hw [] (-4658895280553007687 : Int64) T1_.heap n0 (by rw [H1_]; exact Z0)) rfl (by decide) (by decide) rfl (lenOf pd_J rfl) rfl (Nat.le_of_eq rfl) (by decide) (by decide) d4_43 rfl (fun _ _ _ q => q.1) fun T2_ L2_ X2_ Q2_ => ?_
  obtain ⟨-, N2_, H2_⟩ := Q2_
  refine own_lmul C X2_ d4_46 rfl ?_
  refine own_lstore (L' := #[_, _, _, _, _, _, _, _, _, _]) C X2_ d4_47 rfl rfl ?_
  refine own_lload C X2_ d4_49 rfl rfl ?_
  refine own_lload C X2_ d4_51 rfl rfl ?_
  refine own_bipush C X2_ (30) d4_53 rfl rfl ?_
  refine own_lushr C X2_ d4_55 rfl ?_
  refine own_lxor C X2_ d4_56 rfl ?_
  refine own_lload C X2_ d4_57 rfl rfl ?_
  refine own_bipush C X2_ (60) d4_59 rfl rfl ?_
  refine own_lushr C X2_ d4_61 rfl ?_
  refine own_lxor C X2_ d4_62 rfl ?_
  exact own_retJ C X2_ Bd.returns Bd.notSynchronized (by decide) (by decide) d4_63 ⟨rfl, Fr.app (Fr.app N0 N1_) N2_, H2_.trans H1_⟩
theorem d1_0 : decode prog_165_method_1_code 0 = .ok (.aload_n 0, 1) := by decide +kernel
theorem d1_1 : decode prog_165_method_1_code 1 = .ok (.invokespecial 1, 3) := by decide +kernel
theorem d1_4 : decode prog_165_method_1_code 4 = .ok (.aload_n 0, 1) := by decide +kernel
theorem d1_5 : decode prog_165_method_1_code 5 = .ok (.lload_n 1, 1) := by decide +kernel
theorem d1_6 : decode prog_165_method_1_code 6 = .ok (.putfield 7, 3) := by decide +kernel
theorem d1_9 : decode prog_165_method_1_code 9 = .ok (.return_, 1) := by decide +kernel
theorem pn_1 : plainName "com/example/isolith/isolith/history/SplitMix64" = true := by first | (simp [plainName, overriddenIn]; done) | decide +kernel
def Q1 (Z : State) (a1 : Addr) (q2 : Int64) (h0 : Heap) (n0 : Nat) (v : Option Value) (h : Heap) (L : List Loc) : Prop := v = none ∧ Fr n0 L ∧ Keep h0 h [a1] ∧ Exa Z h a1 "com/example/isolith/isolith/history/SplitMix64" ∧ Fld Z h a1 "com/example/isolith/isolith/history/SplitMix64" "state" "J" (.long q2)
theorem ef_1 (m : MethodId) (a1 : Addr) (q2 : Int64) : entryFrame m #[(.ref a1), (.long q2)] 3 = mkF m 0 #[.val (.ref a1), .val (.long q2), .second] [] := by first | (simp [entryFrame, mkF, argsToLocals, Value.category]; done) | rfl
set_option maxRecDepth 65536 in
set_option maxHeartbeats 40000000 in
theorem rm1 (l : Launch) (Z : State) (a0 : Array Value) (hw : ∀ d ∈ tables_1, d.before a0 Z = true) (ws : List Jvm.Cond) (a1 : Addr) (q2 : Int64) (h0 : Heap) (n0 : Nat) (Z0 : n0 ≤ h0.size) (E1 : Exa Z h0 a1 "com/example/isolith/isolith/history/SplitMix64") (F1 : Fld Z h0 a1 "com/example/isolith/isolith/history/SplitMix64" "state" "J" (.long 0)) (g1 : n0 ≤ a1) :
    MetFree l (⟨"com/example/isolith/isolith/history/SplitMix64", "<init>", "(J)V"⟩ : MethodName) (head1 (Jvm.Cond.code (⟨"com/example/isolith/isolith/history/SplitMix64", "<init>", "(J)V"⟩ : MethodName) prog_165_method_1_code 3 none :: ws) ({ frames := 1, cells := 0, slots := 0, locals := 12 } : Room)) (fun a U => a = #[(.ref a1), (.long q2)] ∧ Z.Warmed39 U.vm ∧ U.heap = h0) (fun _ _ _ _ _ => True) (fun _ U o U' => ∃ v L, o = .returned v ∧ Q1 Z a1 q2 h0 n0 v U'.heap L ∧ FrameEnd U o U' L ({ frames := 1, cells := 0, slots := 0, locals := 12 } : Room).cells ({ frames := 1, cells := 0, slots := 0, locals := 12 } : Room).slots) := by
  refine MetFree.of_bodySF (plainFor_of_name pn_1) hisR ?_
  intro p e s m args below meth c s₁ Bd hml0 hP hK
  obtain ⟨rfl, hZ, hh⟩ := hP
  have hnm := (name_of_methodNamed Bd.named Bd.method).1
  have C : own_C p s m c prog_165_method_1_code "com/example/isolith/isolith/history/SplitMix64" Z 3 := ⟨Bd.exec, Bd.bytes, hZ, findClass_of_methodNamed Bd.named, hml0⟩
  have X0 : Stand p l e ({ frames := 1, cells := 0, slots := 0, locals := 12 } : Room) s m #[(.ref a1), (.long q2)] below meth c s₁ [] 0 0 := Stand.of_body Bd
  have e0 : s₁.heap = h0 := by rw [← hh, Bd.state]; rfl
  have N0 := Fr.nil n0
  show own_E p e below (own_R s below (Q1 Z a1 q2 h0 n0) ({ frames := 1, cells := 0, slots := 0, locals := 12 } : Room).cells ({ frames := 1, cells := 0, slots := 0, locals := 12 } : Room).slots) s₁ (entryFrame m #[(.ref a1), (.long q2)] 3)
  rw [ef_1]
  refine own_aloadN C X0 d1_0 rfl rfl rfl ?_
  refine own_initO C X0 0 (hw _ (List.mem_of_getElem? (i := 6) rfl)) (hw _ (List.mem_of_getElem? (i := 7) rfl)) (hw _ (List.mem_of_getElem? (i := 8) rfl)) e0 rfl (by decide) (Nat.le_of_eq rfl) (by decide) d1_1 rfl fun T1_ X1_ e1_ => ?_
  refine own_aloadN C X1_ d1_4 rfl rfl rfl ?_
  refine own_lloadN C X1_ d1_5 rfl rfl ?_
  refine own_putF C X1_ (hw _ (List.mem_of_getElem? (i := 9) rfl)) Via.refl e1_ F1 E1 (Or.inl (hw _ (List.mem_of_getElem? (i := 10) rfl))) (hw _ (List.mem_of_getElem? (i := 1) rfl)) (ty := .long) (by decide) rfl rfl d1_6 rfl fun T2_ h2_ X2_ e2_ W2_ F2_ E2_ => ?_
  subst e2_
  exact own_retV C X2_ Bd.returns Bd.notSynchronized (by decide) (by decide) d1_9 ⟨rfl, Fr.snoc X2_ N0 g1, (Keep.refl h0 [a1]).wr W2_ (Or.inl (List.mem_of_getElem? (i := 0) rfl)), E2_, F2_⟩
theorem d3_0 : decode prog_165_method_2_code 0 = .ok (.aload_n 0, 1) := by decide +kernel
theorem d3_1 : decode prog_165_method_2_code 1 = .ok (.dup, 1) := by decide +kernel
theorem d3_2 : decode prog_165_method_2_code 2 = .ok (.getfield 7, 3) := by decide +kernel
theorem d3_5 : decode prog_165_method_2_code 5 = .ok (.ldc2_w 13, 3) := by decide +kernel
theorem d3_8 : decode prog_165_method_2_code 8 = .ok (.ladd, 1) := by decide +kernel
theorem d3_9 : decode prog_165_method_2_code 9 = .ok (.putfield 7, 3) := by decide +kernel
theorem d3_12 : decode prog_165_method_2_code 12 = .ok (.aload_n 0, 1) := by decide +kernel
theorem d3_13 : decode prog_165_method_2_code 13 = .ok (.getfield 7, 3) := by decide +kernel
theorem d3_16 : decode prog_165_method_2_code 16 = .ok (.lstore_n 1, 1) := by decide +kernel
theorem d3_17 : decode prog_165_method_2_code 17 = .ok (.lload_n 1, 1) := by decide +kernel
theorem d3_18 : decode prog_165_method_2_code 18 = .ok (.lload_n 1, 1) := by decide +kernel
theorem d3_19 : decode prog_165_method_2_code 19 = .ok (.bipush 30, 2) := by decide +kernel
theorem d3_21 : decode prog_165_method_2_code 21 = .ok (.lushr, 1) := by decide +kernel
theorem d3_22 : decode prog_165_method_2_code 22 = .ok (.lxor, 1) := by decide +kernel
theorem d3_23 : decode prog_165_method_2_code 23 = .ok (.ldc2_w 15, 3) := by decide +kernel
theorem d3_26 : decode prog_165_method_2_code 26 = .ok (.lmul, 1) := by decide +kernel
theorem d3_27 : decode prog_165_method_2_code 27 = .ok (.lstore_n 1, 1) := by decide +kernel
theorem d3_28 : decode prog_165_method_2_code 28 = .ok (.lload_n 1, 1) := by decide +kernel
theorem d3_29 : decode prog_165_method_2_code 29 = .ok (.lload_n 1, 1) := by decide +kernel
theorem d3_30 : decode prog_165_method_2_code 30 = .ok (.bipush 27, 2) := by decide +kernel
theorem d3_32 : decode prog_165_method_2_code 32 = .ok (.lushr, 1) := by decide +kernel
theorem d3_33 : decode prog_165_method_2_code 33 = .ok (.lxor, 1) := by decide +kernel
theorem d3_34 : decode prog_165_method_2_code 34 = .ok (.ldc2_w 17, 3) := by decide +kernel
theorem d3_37 : decode prog_165_method_2_code 37 = .ok (.lmul, 1) := by decide +kernel
theorem d3_38 : decode prog_165_method_2_code 38 = .ok (.lstore_n 1, 1) := by decide +kernel
theorem d3_39 : decode prog_165_method_2_code 39 = .ok (.lload_n 1, 1) := by decide +kernel
theorem d3_40 : decode prog_165_method_2_code 40 = .ok (.lload_n 1, 1) := by decide +kernel
theorem d3_41 : decode prog_165_method_2_code 41 = .ok (.bipush 31, 2) := by decide +kernel
theorem d3_43 : decode prog_165_method_2_code 43 = .ok (.lushr, 1) := by decide +kernel
theorem d3_44 : decode prog_165_method_2_code 44 = .ok (.lxor, 1) := by decide +kernel
theorem d3_45 : decode prog_165_method_2_code 45 = .ok (.lreturn, 1) := by decide +kernel
theorem pn_3 : plainName "com/example/isolith/isolith/history/SplitMix64" = true := by first | (simp [plainName, overriddenIn]; done) | decide +kernel
def Q3 (Z : State) (a1 : Addr) (q2 : Int64) (h0 : Heap) (n0 : Nat) (v : Option Value) (h : Heap) (L : List Loc) : Prop := v = some (.long (own_mix (q2 + (-7046029254386353131 : Int64)))) ∧ Fr n0 L ∧ Keep h0 h [a1] ∧ Exa Z h a1 "com/example/isolith/isolith/history/SplitMix64" ∧ Fld Z h a1 "com/example/isolith/isolith/history/SplitMix64" "state" "J" (.long (q2 + (-7046029254386353131 : Int64)))
theorem ef_3 (m : MethodId) (a1 : Addr) : entryFrame m #[(.ref a1)] 3 = mkF m 0 #[.val (.ref a1), .unset, .unset] [] := by first | (simp [entryFrame, mkF, argsToLocals, Value.category]; done) | rfl
set_option maxRecDepth 65536 in
set_option maxHeartbeats 40000000 in
theorem rm3 (l : Launch) (Z : State) (a0 : Array Value) (hw : ∀ d ∈ tables_1, d.before a0 Z = true) (ws : List Jvm.Cond) (a1 : Addr) (q2 : Int64) (h0 : Heap) (n0 : Nat) (Z0 : n0 ≤ h0.size) (E1 : Exa Z h0 a1 "com/example/isolith/isolith/history/SplitMix64") (F1 : Fld Z h0 a1 "com/example/isolith/isolith/history/SplitMix64" "state" "J" (.long q2)) (g1 : n0 ≤ a1) :
    MetFree l (⟨"com/example/isolith/isolith/history/SplitMix64", "nextLong", "()J"⟩ : MethodName) (head1 (Jvm.Cond.code (⟨"com/example/isolith/isolith/history/SplitMix64", "nextLong", "()J"⟩ : MethodName) prog_165_method_2_code 3 (some .long) :: ws) ({ frames := 0, cells := 0, slots := 0, locals := 0 } : Room)) (fun a U => a = #[(.ref a1)] ∧ Z.Warmed39 U.vm ∧ U.heap = h0) (fun _ _ _ _ _ => True) (fun _ U o U' => ∃ v L, o = .returned v ∧ Q3 Z a1 q2 h0 n0 v U'.heap L ∧ FrameEnd U o U' L ({ frames := 0, cells := 0, slots := 0, locals := 0 } : Room).cells ({ frames := 0, cells := 0, slots := 0, locals := 0 } : Room).slots) := by
  refine MetFree.of_bodySF (plainFor_of_name pn_3) hisR ?_
  intro p e s m args below meth c s₁ Bd hml0 hP hK
  obtain ⟨rfl, hZ, hh⟩ := hP
  have hnm := (name_of_methodNamed Bd.named Bd.method).1
  have C : own_C p s m c prog_165_method_2_code "com/example/isolith/isolith/history/SplitMix64" Z 3 := ⟨Bd.exec, Bd.bytes, hZ, findClass_of_methodNamed Bd.named, hml0⟩
  have X0 : Stand p l e ({ frames := 0, cells := 0, slots := 0, locals := 0 } : Room) s m #[(.ref a1)] below meth c s₁ [] 0 0 := Stand.of_body Bd
  have e0 : s₁.heap = h0 := by rw [← hh, Bd.state]; rfl
  have N0 := Fr.nil n0
  show own_E p e below (own_R s below (Q3 Z a1 q2 h0 n0) ({ frames := 0, cells := 0, slots := 0, locals := 0 } : Room).cells ({ frames := 0, cells := 0, slots := 0, locals := 0 } : Room).slots) s₁ (entryFrame m #[(.ref a1)] 3)
  rw [ef_3]
  refine own_aloadN C X0 d3_0 rfl rfl rfl ?_
  refine own_dup C X0 d3_1 rfl rfl ?_
  refine own_getF C X0 (hw _ (List.mem_of_getElem? (i := 9) rfl)) Via.refl e0 F1 d3_2 rfl fun T1_ X1_ e1_ => ?_
  refine own_ldcJ C X1_ (hw _ (List.mem_of_getElem? (i := 16) rfl)) d3_5 rfl ?_
  refine own_ladd C X1_ d3_8 rfl ?_
  refine own_putF C X1_ (hw _ (List.mem_of_getElem? (i := 9) rfl)) Via.refl e1_ F1 E1 (Or.inl (hw _ (List.mem_of_getElem? (i := 10) rfl))) (hw _ (List.mem_of_getElem? (i := 1) rfl)) (ty := .long) (by decide) rfl rfl d3_9 rfl fun T2_ h2_ X2_ e2_ W2_ F2_ E2_ => ?_
  refine own_aloadN C X2_ d3_12 rfl rfl rfl ?_
  refine own_getF C X2_ (hw _ (List.mem_of_getElem? (i := 9) rfl)) Via.refl e2_ F2_ d3_13 rfl fun T3_ X3_ e3_ => ?_
  refine own_lstoreN (L' := #[_, _, _]) C X3_ d3_16 rfl rfl ?_
  refine own_lloadN C X3_ d3_17 rfl rfl ?_
  refine own_lloadN C X3_ d3_18 rfl rfl ?_
  refine own_bipush C X3_ (30) d3_19 rfl rfl ?_
  refine own_lushr C X3_ d3_21 rfl ?_
  refine own_lxor C X3_ d3_22 rfl ?_
  refine own_ldcJ C X3_ (hw _ (List.mem_of_getElem? (i := 17) rfl)) d3_23 rfl ?_
  refine own_lmul C X3_ d3_26 rfl ?_
  refine own_lstoreN (L' := #[_, _, _]) C X3_ d3_27 rfl rfl ?_
  refine own_lloadN C X3_ d3_28 rfl rfl ?_
  refine own_lloadN C X3_ d3_29 rfl rfl ?_
  refine own_bipush C X3_ (27) d3_30 rfl rfl ?_
  refine own_lushr C X3_ d3_32 rfl ?_
  refine own_lxor C X3_ d3_33 rfl ?_
  refine own_ldcJ C X3_ (hw _ (List.mem_of_getElem? (i := 18) rfl)) d3_34 rfl ?_
  refine own_lmul C X3_ d3_37 rfl ?_
  refine own_lstoreN (L' := #[_, _, _]) C X3_ d3_38 rfl rfl ?_
  refine own_lloadN C X3_ d3_39 rfl rfl ?_
  refine own_lloadN C X3_ d3_40 rfl rfl ?_
  refine own_bipush C X3_ (31) d3_41 rfl rfl ?_
  refine own_lushr C X3_ d3_43 rfl ?_
  refine own_lxor C X3_ d3_44 rfl ?_
  have ee := e3_
  subst ee
  exact own_retJ C X3_ Bd.returns Bd.notSynchronized (by decide) (by decide) d3_45 ⟨rfl, Fr.snoc X2_ N0 g1, (Keep.refl h0 [a1]).wr W2_ (Or.inl (List.mem_of_getElem? (i := 0) rfl)), E2_, F2_⟩
theorem pd_0 : parseMethodDescriptor "(J)V" = some ⟨[.long], none⟩ := by decide +kernel
theorem pd_1 : parseMethodDescriptor "()J" = some ⟨[], some .long⟩ := by decide +kernel
theorem pn_0 : plainName "com/example/isolith/isolith/history/SplitMix64NextLongPinLaw" = true := by first | (simp [plainName, overriddenIn]; done) | decide +kernel
def Q0 (Z : State) (q1 : Int64) (h0 : Heap) (n0 : Nat) (v : Option Value) (h : Heap) (L : List Loc) : Prop := v = some (.int 1) ∧ Fr n0 L
theorem ef_0 (m : MethodId) (q1 : Int64) : entryFrame m #[(.long q1)] maxLocals = mkF m 0 #[.val (.long q1), .second, .unset, .unset, .unset, .unset, .unset, .unset, .unset] [] := by first | (simp [entryFrame, mkF, argsToLocals, Value.category, maxLocals]; done) | rfl
set_option maxRecDepth 65536 in
set_option maxHeartbeats 40000000 in
theorem rm0 (l : Launch) (Z : State) (a0 : Array Value) (hw : ∀ d ∈ tables_1, d.before a0 Z = true) (ws : List Jvm.Cond) (q1 : Int64) (h0 : Heap) (n0 : Nat) (Z0 : n0 ≤ h0.size)  :
    MetFree l x (head1 (Jvm.Cond.code x code maxLocals ret :: ws) room_1) (fun a U => a = #[(.long q1)] ∧ Z.Warmed39 U.vm ∧ U.heap = h0) (fun _ _ _ _ _ => True) (fun _ U o U' => ∃ v L, o = .returned v ∧ Q0 Z q1 h0 n0 v U'.heap L ∧ FrameEnd U o U' L 16 128) := by
  refine MetFree.of_bodySF (plainFor_of_name pn_0) hisR ?_
  intro p e s m args below meth c s₁ Bd hml0 hP hK
  obtain ⟨rfl, hZ, hh⟩ := hP
  have hnm := (name_of_methodNamed Bd.named Bd.method).1
  have C : own_C p s m c code "com/example/isolith/isolith/history/SplitMix64NextLongPinLaw" Z 9 := ⟨Bd.exec, Bd.bytes, hZ, findClass_of_methodNamed Bd.named, hml0⟩
  have X0 : Stand p l e room_1 s m #[(.long q1)] below meth c s₁ [] 0 0 := Stand.of_body Bd
  have e0 : s₁.heap = h0 := by rw [← hh, Bd.state]; rfl
  have N0 := Fr.nil n0
  show own_E p e below (own_R s below (Q0 Z q1 h0 n0) 16 128) s₁ (entryFrame m #[(.long q1)] maxLocals)
  rw [ef_0]
  refine own_newO C X0 (hw _ (List.mem_of_getElem? (i := 0) rfl)) (hw _ (List.mem_of_getElem? (i := 1) rfl)) (hw _ (List.mem_of_getElem? (i := 2) rfl)) e0 (by decide) (by decide) at_0 rfl fun T1_ h1_ a1_ X1_ e1_ g1_ E1_ A1_ D1_ => ?_
  have ga : n0 ≤ a1_ := by rw [g1_]; exact Z0
  have Z1 : n0 ≤ h1_.size := Nat.le_trans Z0 E1_.1
  have F1 : Fld Z h1_ a1_ "com/example/isolith/isolith/history/SplitMix64" "state" "J" (.long 0) := D1_ (Or.inl (hw _ (List.mem_of_getElem? (i := 10) rfl))) (ty := .long) (by decide)
  refine own_dup C X1_ at_3 rfl rfl ?_
  refine own_lloadN C X1_ at_4 rfl rfl ?_
  refine own_callI C X1_ 1 [.long q1] (hw _ (List.mem_of_getElem? (i := 3) rfl)) rfl (hw _ (List.mem_of_getElem? (i := 4) rfl)) (hw _ (List.mem_of_getElem? (i := 2) rfl)) (hw _ (List.mem_of_getElem? (i := 5) rfl)) (by decide) e1_ (rm1 l Z a0 hw [] a1_ q1 h1_ n0 Z1 A1_ F1 ga) rfl (by decide) (by decide) rfl (lenOf pd_0 rfl) rfl (Nat.le_of_eq rfl) (by decide) (by decide) at_5 rfl (fun _ _ _ q => q.1) fun T2_ L2_ X2_ Q2_ => ?_
  obtain ⟨-, N1, K1, A1, B1⟩ := Q2_
  have Z2 : n0 ≤ T2_.heap.size := Nat.le_trans Z1 K1.1
  refine own_astoreN (L' := #[_, _, _, _, _, _, _, _, _]) C X2_ at_8 rfl rfl rfl ?_
  refine own_aloadN C X2_ at_9 rfl rfl rfl ?_
  refine own_callV C X2_ 0 [] (hw _ (List.mem_of_getElem? (i := 11) rfl)) (hw _ (List.mem_of_getElem? (i := 12) rfl)) (hw _ (List.mem_of_getElem? (i := 14) rfl)) (hw _ (List.mem_of_getElem? (i := 13) rfl)) (hw _ (List.mem_of_getElem? (i := 2) rfl)) (hw _ (List.mem_of_getElem? (i := 15) rfl)) A1 (by decide) rfl (rm3 l Z a0 hw [] a1_ q1 T2_.heap n0 Z2 A1 B1 ga) rfl (by decide) (by decide) rfl (lenOf pd_1 rfl) rfl (Nat.le_of_eq rfl) (by decide) (by decide) at_10 rfl (fun _ _ _ q => q.1) fun T3_ L3_ X3_ Q3_ => ?_
  obtain ⟨-, N2, K2, A2, B2⟩ := Q3_
  have Z3 : n0 ≤ T3_.heap.size := Nat.le_trans Z2 K2.1
  refine own_lstoreN (L' := #[_, _, _, _, _, _, _, _, _]) C X3_ at_13 rfl rfl ?_
  refine own_aloadN C X3_ at_14 rfl rfl rfl ?_
  refine own_callV C X3_ 0 [] (hw _ (List.mem_of_getElem? (i := 11) rfl)) (hw _ (List.mem_of_getElem? (i := 12) rfl)) (hw _ (List.mem_of_getElem? (i := 14) rfl)) (hw _ (List.mem_of_getElem? (i := 13) rfl)) (hw _ (List.mem_of_getElem? (i := 2) rfl)) (hw _ (List.mem_of_getElem? (i := 15) rfl)) A2 (by decide) rfl (rm3 l Z a0 hw [] a1_ (q1 + (-7046029254386353131 : Int64)) T3_.heap n0 Z3 A2 B2 ga) rfl (by decide) (by decide) rfl (lenOf pd_1 rfl) rfl (Nat.le_of_eq rfl) (by decide) (by decide) at_15 rfl (fun _ _ _ q => q.1) fun T4_ L4_ X4_ Q4_ => ?_
  obtain ⟨-, N3, K3, A3, B3⟩ := Q4_
  have Z4 : n0 ≤ T4_.heap.size := Nat.le_trans Z3 K3.1
  refine own_lstore (L' := #[_, _, _, _, _, _, _, _, _]) C X4_ at_18 rfl rfl ?_
  refine own_lloadN C X4_ at_20 rfl rfl ?_
  refine own_callS C X4_ 0 [.long (own_mix (q1 + (-7046029254386353131 : Int64)))] (hw _ (List.mem_of_getElem? (i := 19) rfl)) (hw _ (List.mem_of_getElem? (i := 20) rfl)) (hw _ (List.mem_of_getElem? (i := 21) rfl)) (hw _ (List.mem_of_getElem? (i := 22) rfl)) (by decide) rfl (rm4 l Z a0 hw [] _ T4_.heap n0 Z4) rfl (by decide) (by decide) rfl (lenOf pd_J rfl) rfl (Nat.le_of_eq rfl) (by decide) (by decide) at_21 rfl (fun _ _ _ q => q.1) fun T5_ L5_ X5_ Q5_ => ?_
  obtain ⟨-, N4, H4⟩ := Q5_
  refine own_lloadN C X5_ at_24 rfl rfl ?_
  refine own_ldcJ C X5_ (hw _ (List.mem_of_getElem? (i := 29) rfl)) at_25 rfl ?_
  refine own_ladd C X5_ at_28 rfl ?_
  refine own_lcmp C X5_ at_29 rfl ?_
  refine own_ifN C X5_ at_30 ((if0 _ _).trans (teq ((lw_eq _ _).mpr (own_round (q1 + (-7046029254386353131 : Int64))))).2) rfl ?_
  refine own_iconst C X5_ (1) at_33 rfl rfl ?_
  refine own_goto (pc' := 38) C X5_ at_34 (by decide) (by decide) ?_
  refine own_istore (L' := #[_, _, _, _, _, _, _, _, _]) C X5_ at_38 rfl rfl ?_
  refine own_lload C X5_ at_40 rfl rfl ?_
  refine own_callS C X5_ 0 [.long (own_mix ((q1 + (-7046029254386353131 : Int64)) + (-7046029254386353131 : Int64)))] (hw _ (List.mem_of_getElem? (i := 19) rfl)) (hw _ (List.mem_of_getElem? (i := 20) rfl)) (hw _ (List.mem_of_getElem? (i := 21) rfl)) (hw _ (List.mem_of_getElem? (i := 22) rfl)) (by decide) rfl (rm4 l Z a0 hw [] _ T5_.heap n0 (by rw [H4]; exact Z4)) rfl (by decide) (by decide) rfl (lenOf pd_J rfl) rfl (Nat.le_of_eq rfl) (by decide) (by decide) at_42 rfl (fun _ _ _ q => q.1) fun T6_ L6_ X6_ Q6_ => ?_
  obtain ⟨-, N5, H5⟩ := Q6_
  refine own_lloadN C X6_ at_45 rfl rfl ?_
  refine own_ldcJ C X6_ (hw _ (List.mem_of_getElem? (i := 29) rfl)) at_46 rfl ?_
  refine own_ladd C X6_ at_49 rfl ?_
  refine own_ldcJ C X6_ (hw _ (List.mem_of_getElem? (i := 29) rfl)) at_50 rfl ?_
  refine own_ladd C X6_ at_53 rfl ?_
  refine own_lcmp C X6_ at_54 rfl ?_
  refine own_ifN C X6_ at_55 ((if0 _ _).trans (teq ((lw_eq _ _).mpr (own_round ((q1 + (-7046029254386353131 : Int64)) + (-7046029254386353131 : Int64))))).2) rfl ?_
  refine own_iconst C X6_ (1) at_58 rfl rfl ?_
  refine own_goto (pc' := 63) C X6_ at_59 (by decide) (by decide) ?_
  refine own_istore (L' := #[_, _, _, _, _, _, _, _, _]) C X6_ at_63 rfl rfl ?_
  refine own_iload C X6_ at_65 rfl rfl ?_
  refine own_ifN C X6_ at_67 ((if0 _ _).trans (feq (show ¬ (1 : Int32) = 0 by decide)).1) rfl ?_
  refine own_iload C X6_ at_70 rfl rfl ?_
  refine own_ifN C X6_ at_72 ((if0 _ _).trans (feq (show ¬ (1 : Int32) = 0 by decide)).1) rfl ?_
  refine own_iconst C X6_ (1) at_75 rfl rfl ?_
  refine own_goto (pc' := 80) C X6_ at_76 (by decide) (by decide) ?_
  exact own_retN C X6_ Bd.returns (by simp) Bd.notSynchronized (by decide) (by decide) at_80 ⟨rfl, Fr.app (Fr.app (Fr.app (Fr.app (Fr.app N0 N1) N2) N3) N4) N5⟩
set_option maxRecDepth 65536 in
set_option maxHeartbeats 40000000 in
theorem comes_1 {Post : Tables → Env → Array Value → State → Outcome → State → Prop} (hpost : ∀ tb e args s v u, (limb_1_1.after args s (.returned v) u = true ∧ limb_1_2.after args s (.returned v) u = true ∧ True) → FrameEnd s (.returned v) u (Jvm.fieldLocs frame_1_writes args s ++ Jvm.arrayLocs frame_1_arrays args s ++ Jvm.staticLocs frame_1_statics s) 16 128 → Post tb e args s (.returned v) u) :
    ArmFor flags0 classFile x code maxLocals ret World_1 tables_1 room_1 Calls_1 rest_1 Pre_1 Post := by
  intro l hfl _ _ p e ha hc hk s m args below hf hA hF happ hP
  obtain ⟨hcalls, hrest, hpre⟩ := hP
  obtain ⟨-, -, -, hnamed, -, -, -, hat⟩ := (Spec.applies_iff hf).mp happ
  obtain ⟨hg, hn⟩ := and_e (Cond.before_iff.mp (show (Jvm.Cond.and given_1 narrow_1).before args s = true from hpre))
  obtain ⟨gc, r0⟩ := and_e hg
  have g0 := r0
  obtain ⟨w0, rfl⟩ : ∃ w0 : Value, args = #[w0] := by
    have hs : args.size = 1 := by simpa [Cond.value, given_1] using gc
    obtain ⟨L⟩ := args
    match L, hs with
    | [w0], _ => exact ⟨w0, rfl⟩
  have hw := fun d (hd : d ∈ tables_1) => atoms_spec (ws := Jvm.Cond.code x code maxLocals ret :: tables_1) hat d (List.mem_cons_of_mem _ hd)
  obtain ⟨i0, ei0⟩ := isL_v g0
  obtain rfl : w0 = (.long i0) := Option.some.inj ei0
  obtain ⟨n, o, h1, h2, h3, _, L, rfl, ⟨rfl, N⟩, hq⟩ := rm0 l s _ hw tables_1 i0 s.heap s.heap.size (Nat.le_refl _) p e ha hc hk s m _ below hf ((Spec.applies_iff_loose hf).mp happ).1 ⟨rfl, State.Warmed39.refl s, rfl⟩ trivial
  refine ⟨n, _, h1, h2, h3, hpost _ _ _ _ _ _ ⟨Cond.after_iff.mpr rfl, Cond.after_iff.mpr (eq_i res_at (Term.int_eval (1)) rfl), trivial⟩ ⟨hq.1, hq.2.1, (hq.2.2.sift fun y hy => Or.inr (N y hy)).mono (by decide) (by decide)⟩⟩
theorem main_1_1 : Claimed_1_1 := comes_1 fun _ _ _ _ _ _ h hF => ⟨h.1, hF⟩
theorem main_1_2 : Claimed_1_2 := comes_1 fun _ _ _ _ _ _ h hF => ⟨h.2.1, hF⟩
end Jvm.Pilot.@@N@@
namespace Jvm.Pilot.@@N@@
open Jvm Jvm.ClassFile Sem Op Lib Jvm.Free Jvm.Stand Jvm.Pilot.@@N@@.Jvm.D
/-! MADE BY PROGRAM (witnessworld.py) out of the Statement's table words and the real class files: 9 classes; the members and pool entries that the words name. The judged class is class 1, her method 3. -/
namespace start1
open Jvm.ClassFile
def u (s : String) : CpInfo := .utf8 (stringToUtf16 s)
/-- a pool by its gaps: so many unusable entries, then the entry; so many at the end -/
def gap : Nat → List CpInfo → List CpInfo
  | 0, r => r
  | n + 1, r => .unusable :: gap n r
def poolList (es : List (Nat × CpInfo)) (last : Nat) : List CpInfo := es.foldr (fun e r => gap e.1 (e.2 :: r)) (gap last [])
def pool (es : List (Nat × CpInfo)) (last : Nat) : Array CpInfo := ⟨poolList es last⟩
def fileOf (pool : Array CpInfo) (this : Nat) (attrs : Array Attribute := #[]) (ms : Array MethodInfo := #[]) (fl : Nat := 33) (sup : Nat := 0) (ifs : Array Nat := #[]) (fds : Array FieldInfo := #[]) : ClassFile where
  minorVersion := 0
  majorVersion := 65
  constantPool := pool
  accessFlags := fl
  thisClass := this
  superClass := sup
  interfaces := ifs
  fields := fds
  methods := ms
  attributes := attrs
def plain (name : String) (sup : Option ClassId) : Class where
  name := name
  kind := .ordinary
  loader := none
  accessFlags := 33
  super := sup
  interfaces := #[]
  cf := none
  fields := #[]
  methods := #[]
  instanceTypes := #[]
  staticTypes := #[]
  resolved := #[]
  callSites := []
  init := .initialized
  statics := none
  mirror := none

def pool0 : Array CpInfo := pool [(5, u "<init>"), (0, u "()V"), (1, .class_ 10), (1, u "java/lang/Object")] 113

def k0c0 : Code := { maxStack := 0, maxLocals := 1, code := object_method_1_code, exceptionTable := #[], attributes := #[] }
def k0m0 : Method := { name := "<init>", desc := "()V", sig := { parameters := [], returnType := none }, accessFlags := 1, code := some k0c0 }
/-- java/lang/Object -/
def k0 : Class := { plain "java/lang/Object" none with
  accessFlags := 33
  interfaces := #[]
  cf := some (fileOf pool0 8 #[] #[{ accessFlags := 1, nameIndex := 5, descriptorIndex := 6, attributes := #[] }] 33 0 #[] #[])
  fields := #[]
  methods := #[k0m0]
  instanceTypes := #[]
  staticTypes := #[]
  resolved := Array.replicate 124 none
  statics := none }

def pool1 : Array CpInfo := pool [(2, .class_ 4), (1, u "java/lang/Object"), (0, u "<init>"), (0, u "()V"), (0, .long 2), (1, .class_ 10), (0, u "com/example/isolith/isolith/history/SplitMix64NextLongPinLaw"), (0, .long 10723151780598845931), (1, .methodref 9 14), (0, .nameAndType 15 16), (0, u "inverse"), (0, u "(J)J"), (0, .long 13787848793156543929), (1, .class_ 20), (0, u "com/example/isolith/isolith/history/SplitMix64"), (0, .methodref 19 22), (0, .nameAndType 5 23), (0, u "(J)V"), (0, .methodref 19 25), (0, .nameAndType 26 27), (0, u "nextLong"), (0, u "()J"), (0, .methodref 9 29), (0, .nameAndType 30 16), (0, u "unmix"), (0, .long 11400714819323198485), (1, u "GAMMA"), (0, u "J"), (1, u "M1"), (0, u "M2"), (2, u "law"), (0, u "(J)Z")] 3

def k1m0 : Method := { name := "<init>", desc := "()V", sig := { parameters := [], returnType := none }, accessFlags := 1, code := none }
def k1c1 : Code := { maxStack := 8, maxLocals := 4, code := method_2_code, exceptionTable := #[], attributes := #[] }
def k1m1 : Method := { name := "inverse", desc := "(J)J", sig := { parameters := [.long], returnType := some .long }, accessFlags := 10, code := some k1c1 }
def k1c2 : Code := { maxStack := 5, maxLocals := 10, code := method_3_code, exceptionTable := #[], attributes := #[] }
def k1m2 : Method := { name := "unmix", desc := "(J)J", sig := { parameters := [.long], returnType := some .long }, accessFlags := 10, code := some k1c2 }
def k1c3 : Code := { maxStack := 6, maxLocals := 9, code := code, exceptionTable := #[], attributes := #[] }
def k1m3 : Method := { name := "law", desc := "(J)Z", sig := { parameters := [.long], returnType := some .boolean }, accessFlags := 9, code := some k1c3 }
/-- com/example/isolith/isolith/history/SplitMix64NextLongPinLaw -/
def k1 : Class := { plain "com/example/isolith/isolith/history/SplitMix64NextLongPinLaw" (some 0) with
  accessFlags := 49
  interfaces := #[]
  cf := some (fileOf pool1 9 #[] #[{ accessFlags := 1, nameIndex := 5, descriptorIndex := 6, attributes := #[] }, { accessFlags := 10, nameIndex := 15, descriptorIndex := 16, attributes := #[] }, { accessFlags := 10, nameIndex := 30, descriptorIndex := 16, attributes := #[] }, { accessFlags := 9, nameIndex := 40, descriptorIndex := 41, attributes := #[] }] 49 2 #[] #[{ accessFlags := 26, nameIndex := 33, descriptorIndex := 34, attributes := #[] }, { accessFlags := 26, nameIndex := 36, descriptorIndex := 34, attributes := #[] }, { accessFlags := 26, nameIndex := 37, descriptorIndex := 34, attributes := #[] }])
  fields := #[{ name := "GAMMA", type := .long, accessFlags := 26, slot := 0, constantValue := 0 }, { name := "M1", type := .long, accessFlags := 26, slot := 1, constantValue := 0 }, { name := "M2", type := .long, accessFlags := 26, slot := 2, constantValue := 0 }]
  methods := #[k1m0, k1m1, k1m2, k1m3]
  instanceTypes := #[]
  staticTypes := #[.long, .long, .long]
  resolved := Array.replicate 45 none
  statics := none }

def pool2 : Array CpInfo := pool [(1, .methodref 2 3), (0, .class_ 4), (0, .nameAndType 5 6), (0, u "java/lang/Object"), (0, u "<init>"), (0, u "()V"), (0, .fieldref 8 9), (0, .class_ 10), (0, .nameAndType 11 12), (0, u "com/example/isolith/isolith/history/SplitMix64"), (0, u "state"), (0, u "J"), (0, .long 11400714819323198485), (1, .long 13787848793156543929), (1, .long 10723151780598845931), (7, u "nextLong"), (0, u "()J"), (2, u "GAMMA"), (1, u "(J)V")] 8

def k2c0 : Code := { maxStack := 3, maxLocals := 3, code := prog_165_method_1_code, exceptionTable := #[], attributes := #[] }
def k2m0 : Method := { name := "<init>", desc := "(J)V", sig := { parameters := [.long], returnType := none }, accessFlags := 0, code := some k2c0 }
def k2c1 : Code := { maxStack := 5, maxLocals := 3, code := prog_165_method_2_code, exceptionTable := #[], attributes := #[] }
def k2m1 : Method := { name := "nextLong", desc := "()J", sig := { parameters := [], returnType := some .long }, accessFlags := 0, code := some k2c1 }
/-- com/example/isolith/isolith/history/SplitMix64 -/
def k2 : Class := { plain "com/example/isolith/isolith/history/SplitMix64" (some 0) with
  accessFlags := 48
  interfaces := #[]
  cf := some (fileOf pool2 8 #[] #[{ accessFlags := 0, nameIndex := 5, descriptorIndex := 31, attributes := #[] }, { accessFlags := 0, nameIndex := 25, descriptorIndex := 26, attributes := #[] }] 48 2 #[] #[{ accessFlags := 26, nameIndex := 29, descriptorIndex := 12, attributes := #[] }, { accessFlags := 2, nameIndex := 11, descriptorIndex := 12, attributes := #[] }])
  fields := #[{ name := "GAMMA", type := .long, accessFlags := 26, slot := 0, constantValue := 0 }, { name := "state", type := .long, accessFlags := 2, slot := 0, constantValue := 0 }]
  methods := #[k2m0, k2m1]
  instanceTypes := #[.long]
  staticTypes := #[.long]
  resolved := Array.replicate 40 none
  statics := none }

def pool3 : Array CpInfo := pool [(1, u "java/lang/Cloneable"), (0, .class_ 1), (0, u "java/lang/Object"), (0, .class_ 3)] 3

/-- java/lang/Cloneable -/
def k3 : Class := { plain "java/lang/Cloneable" (some 0) with
  accessFlags := 1537
  interfaces := #[]
  cf := some (fileOf pool3 2 #[] #[] 1537 4 #[] #[])
  fields := #[]
  methods := #[]
  instanceTypes := #[]
  staticTypes := #[]
  resolved := Array.replicate 8 none
  statics := none }

def pool4 : Array CpInfo := pool [(1, u "java/io/Serializable"), (0, .class_ 1), (0, u "java/lang/Object"), (0, .class_ 3)] 3

/-- java/io/Serializable -/
def k4 : Class := { plain "java/io/Serializable" (some 0) with
  accessFlags := 1537
  interfaces := #[]
  cf := some (fileOf pool4 2 #[] #[] 1537 4 #[] #[])
  fields := #[]
  methods := #[]
  instanceTypes := #[]
  staticTypes := #[]
  resolved := Array.replicate 8 none
  statics := none }

/-- the primitive byte -/
def k5 : Class := { plain "byte" none with kind := .primitive 'B', accessFlags := 0x411 }
/-- [B -/
def k6 : Class := { plain "[B" (some 0) with kind := .array 5 .byte, interfaces := #[3, 4], accessFlags := 1041 }

/-- the primitive int -/
def k7 : Class := { plain "int" none with kind := .primitive 'I', accessFlags := 0x411 }
/-- [I -/
def k8 : Class := { plain "[I" (some 0) with kind := .array 7 .int, interfaces := #[3, 4], accessFlags := 1041 }

def heap : Heap := #[]
def classes : Array Class := #[k0, k1, k2, k3, k4, k5, k6, k7, k8]
def interned : List (Array UInt16 × Addr) := []
def slotsUsed : Nat := 0
def theMethod : MethodId := ⟨1, 3⟩
def args0 : Array Value := #[.long 5]
def aboutOver (below : List Frame) : State where
  vm := { classes := classes, interned := interned.toArray }
  heap := heap
  slotsUsed := slotsUsed
  threads := #[{ frames := .invoking theMethod args0 :: below }]
def below0 : List Frame := [.native { method := ⟨0, 0⟩, args := #[] }]
def about1 : State := aboutOver below0
def p0 : Program := .bare "" "" ""
def e0 : Env := launch0.env 0 0 0
theorem w_frames : about1.frames = Frame.invoking theMethod args0 :: below0 := rfl
set_option maxRecDepth 65536 in
theorem w_args : argsFit about1.vm theMethod args0 = true := by decide +kernel
set_option maxRecDepth 65536 in
theorem w_heap : heapFits about1 = true := by decide +kernel
set_option maxRecDepth 65536 in
theorem w_runnable : about1.curStatus? = some .runnable := by decide +kernel
set_option maxRecDepth 65536 in
theorem w_alone : about1.alone = true := by decide +kernel
set_option maxRecDepth 65536 in
theorem w_named : about1.methodNamed? x = some theMethod := by decide +kernel
set_option maxRecDepth 65536 in
theorem w_hears : about1.hears theMethod below0 = true := by decide +kernel
set_option maxRecDepth 65536 in
theorem w_ripe : about1.ripe theMethod args0 below0 = true := by decide +kernel
theorem w_running : about1.status = .running := rfl
set_option maxRecDepth 65536 in
theorem w_room : about1.hasRoom e0.platform room_1 = true :=
  launch0.hasRoom_least _ room_1 (by decide +kernel) (by decide +kernel) (by decide +kernel) (by decide +kernel) (by decide +kernel) (by decide +kernel)
theorem allAtoms_all (ts : List Jvm.Cond) (a : Array Jvm.Value) (st : Jvm.State) : (allAtoms ts).before a st = ts.all (fun c => c.before a st) := by
  induction ts with
  | nil => rfl
  | cons c t ih =>
    show (Jvm.Cond.and c (allAtoms t)).before a st = _
    rw [Jvm.Cond.before_and, ih, List.all_cons]
def words1 : List Jvm.Cond := Jvm.Cond.code x code maxLocals ret :: tables_1
/-- a 'code' word, met by the world's own term for the bytes: nothing is compared byte by byte -/
theorem code_word {y : MethodName} {bytes : ByteArray} {mx : Nat} {rt : Option FieldType} {a : Array Value} {s : State} {m : MethodId} {meth : Method} {c : Code} (h1 : s.methodNamed? y = some m) (h2 : s.vm.method? m = some meth) (h3 : meth.code = some c) (h4 : c.code = bytes)
    (h5 : (c.maxLocals == mx && c.exceptionTable.isEmpty && decide (c.maxStack ≤ mostOperands) && decide (meth.sig.returnType = rt) && !meth.locks && decide (parseMethodDescriptor y.desc = some meth.sig)) = true) : (Jvm.Cond.code y bytes mx rt).before a s = true := by
  simp only [Bool.and_eq_true, beq_iff_eq, Bool.not_eq_true', decide_eq_true_eq] at h5
  obtain ⟨⟨⟨⟨⟨g1, g2⟩, g3⟩, g4⟩, g5⟩, g6⟩ := h5
  simp [Cond.before, Cond.holds, Cond.value, h1, h2, h3, h4, g1, g2, g3, g4, g5, g6]
def isCode : Jvm.Cond → Bool
  | .code _ _ _ _ => true
  | _ => false
theorem all_split {L : List Jvm.Cond} {P : Jvm.Cond → Bool} (h1 : L.all (fun c => isCode c || P c) = true) (h2 : ∀ c ∈ L.filter isCode, P c = true) : L.all P = true := by
  refine List.all_eq_true.mpr fun c hc => ?_
  have h := List.all_eq_true.mp h1 c hc
  rcases Bool.eq_false_or_eq_true (isCode c) with hi | hi
  · exact h2 c (List.mem_filter.mpr ⟨hc, hi⟩)
  · simpa [hi] using h
set_option maxRecDepth 65536 in
theorem w_c0 : (Jvm.Cond.code x code maxLocals ret).before args0 about1 = true := code_word (m := ⟨1, 3⟩) (meth := k1m3) (c := k1c3) (by decide +kernel) rfl rfl rfl (by decide +kernel)
set_option maxRecDepth 65536 in
theorem w_c1 : (Jvm.Cond.code ({ cls := "com/example/isolith/isolith/history/SplitMix64", name := "<init>", desc := "(J)V" } : Jvm.MethodName) prog_165_method_1_code (3 : Nat) (Option.none : Option Jvm.ClassFile.FieldType)).before args0 about1 = true := code_word (m := ⟨2, 0⟩) (meth := k2m0) (c := k2c0) (by decide +kernel) rfl rfl rfl (by decide +kernel)
set_option maxRecDepth 65536 in
theorem w_c2 : (Jvm.Cond.code ({ cls := "java/lang/Object", name := "<init>", desc := "()V" } : Jvm.MethodName) object_method_1_code (1 : Nat) (Option.none : Option Jvm.ClassFile.FieldType)).before args0 about1 = true := code_word (m := ⟨0, 0⟩) (meth := k0m0) (c := k0c0) (by decide +kernel) rfl rfl rfl (by decide +kernel)
set_option maxRecDepth 65536 in
theorem w_c3 : (Jvm.Cond.code ({ cls := "com/example/isolith/isolith/history/SplitMix64", name := "nextLong", desc := "()J" } : Jvm.MethodName) prog_165_method_2_code (3 : Nat) (Option.some Jvm.ClassFile.FieldType.long)).before args0 about1 = true := code_word (m := ⟨2, 1⟩) (meth := k2m1) (c := k2c1) (by decide +kernel) rfl rfl rfl (by decide +kernel)
set_option maxRecDepth 65536 in
theorem w_c4 : (Jvm.Cond.code ({ cls := "com/example/isolith/isolith/history/SplitMix64NextLongPinLaw", name := "unmix", desc := "(J)J" } : Jvm.MethodName) method_3_code (10 : Nat) (Option.some Jvm.ClassFile.FieldType.long)).before args0 about1 = true := code_word (m := ⟨1, 2⟩) (meth := k1m2) (c := k1c2) (by decide +kernel) rfl rfl rfl (by decide +kernel)
set_option maxRecDepth 65536 in
theorem w_c5 : (Jvm.Cond.code ({ cls := "com/example/isolith/isolith/history/SplitMix64NextLongPinLaw", name := "inverse", desc := "(J)J" } : Jvm.MethodName) method_2_code (4 : Nat) (Option.some Jvm.ClassFile.FieldType.long)).before args0 about1 = true := code_word (m := ⟨1, 1⟩) (meth := k1m1) (c := k1c1) (by decide +kernel) rfl rfl rfl (by decide +kernel)
def codes1 : List Jvm.Cond := [Jvm.Cond.code x code maxLocals ret, Jvm.Cond.code ({ cls := "com/example/isolith/isolith/history/SplitMix64", name := "<init>", desc := "(J)V" } : Jvm.MethodName) prog_165_method_1_code (3 : Nat) (Option.none : Option Jvm.ClassFile.FieldType), Jvm.Cond.code ({ cls := "java/lang/Object", name := "<init>", desc := "()V" } : Jvm.MethodName) object_method_1_code (1 : Nat) (Option.none : Option Jvm.ClassFile.FieldType), Jvm.Cond.code ({ cls := "com/example/isolith/isolith/history/SplitMix64", name := "nextLong", desc := "()J" } : Jvm.MethodName) prog_165_method_2_code (3 : Nat) (Option.some Jvm.ClassFile.FieldType.long), Jvm.Cond.code ({ cls := "com/example/isolith/isolith/history/SplitMix64NextLongPinLaw", name := "unmix", desc := "(J)J" } : Jvm.MethodName) method_3_code (10 : Nat) (Option.some Jvm.ClassFile.FieldType.long), Jvm.Cond.code ({ cls := "com/example/isolith/isolith/history/SplitMix64NextLongPinLaw", name := "inverse", desc := "(J)J" } : Jvm.MethodName) method_2_code (4 : Nat) (Option.some Jvm.ClassFile.FieldType.long)]
set_option maxRecDepth 65536 in
theorem codes_eq : words1.filter isCode = codes1 := rfl
theorem w_codes : ∀ c ∈ words1.filter isCode, c.before args0 about1 = true := by
  rw [codes_eq]
  intro c hc
  simp only [codes1, List.mem_cons, List.not_mem_nil, or_false] at hc
  rcases hc with rfl | rfl | rfl | rfl | rfl | rfl
  · exact w_c0
  · exact w_c1
  · exact w_c2
  · exact w_c3
  · exact w_c4
  · exact w_c5
set_option maxRecDepth 65536 in
theorem w_t1 : (words1.take 24).all (fun c => isCode c || c.before args0 about1) = true := by decide +kernel
set_option maxRecDepth 65536 in
theorem w_t2 : (words1.drop 24).all (fun c => isCode c || c.before args0 about1) = true := by decide +kernel
theorem w_tables : (allAtoms (Jvm.Cond.code x code maxLocals ret :: tables_1)).before args0 about1 = true := by
  rw [allAtoms_all]
  show words1.all (fun c => c.before args0 about1) = true
  refine all_split ?_ w_codes
  rw [← List.take_append_drop 24 words1, List.all_append, w_t1, w_t2]
  rfl
set_option maxRecDepth 65536 in
theorem w_case : (Jvm.Cond.and given_1 narrow_1).before args0 about1 = true := by decide +kernel
theorem w_applies : (headSpec (Jvm.Cond.code x code maxLocals ret :: tables_1) room_1).applies x e0.platform about1 = true :=
  (Spec.applies_iff w_frames).mpr ⟨w_running, w_runnable, w_alone, w_named, w_hears, w_ripe, w_room, w_tables⟩
theorem atStart : AtStart classFile x code maxLocals ret World_1 tables_1 room_1 Calls_1 rest_1 Pre_1 launch0 p0 e0 about1 theMethod args0 below0 :=
  ⟨lists_1, trivial, launch0.admits_env _ _ _, launch0.least_env, fairChoices_fair.cas, fairChoices_fair.clock, w_frames, w_args, w_heap, w_applies, trivial, trivial, w_case⟩
end start1
theorem witness_1 : WitnessClaimed_1 := ⟨start1.p0, start1.e0, start1.about1, start1.theMethod, start1.args0, start1.below0, start1.atStart⟩
end Jvm.Pilot.@@N@@
