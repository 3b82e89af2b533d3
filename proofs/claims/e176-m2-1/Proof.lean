import JvmDerived
import JvmDerived.Pilot.@@N@@Statement
import JvmDerived.Pilot.@@N@@Code
set_option linter.unusedVariables false
set_option linter.unusedSimpArgs false
@@BLOCK:NumsL.lean.txt@@
namespace Jvm.Pilot.@@N@@
open Jvm Jvm.ClassFile Sem Op Lib Jvm.Free Jvm.Stand Jvm.LawKit Jvm.RoadKit Bundle Jvm.Pilot.@@N@@.Jvm.D
def own_E (p : Program) (e : Env) (below : List Frame) (P : State → Outcome → Prop) (T : State) (g : JFrame) : Prop := ∃ t o, Steps p.tables e below (T.setTop g) t ∧ P t o
theorem own_go {p : Program} {e : Env} {below : List Frame} {P : State → Outcome → Prop} {T T' : State} {g g' : JFrame} (st : ∀ t, Steps p.tables e below (T'.setTop g') t → Steps p.tables e below (T.setTop g) t) (h : own_E p e below P T' g') : own_E p e below P T g := by
  obtain ⟨t, o, h1, h2⟩ := h
  exact ⟨t, o, st t h1, h2⟩
def own_C (p : Program) (s : State) (m : MethodId) (c : Code) (bytes : ByteArray) (own : String) (Z : State) (ml : Nat) : Prop := p.tables.exec = Jvm.exec ∧ c.code = bytes ∧ Z.Warmed39 s.vm ∧ s.vm.findClass own = some m.cls ∧ c.maxLocals = ml
def own_R (s : State) (below : List Frame) (Q : Option Value → Heap → List Loc → Prop) (k n : Nat) : State → Outcome → Prop := fun t o => t.status = .running ∧ Ended t below o ∧ ∃ v L, o = .returned v ∧ Q v t.heap L ∧ FrameEnd s o t L k n
section Own
variable {p : Program} {l : Launch} {e : Env} {R : Room} {s : State} {m : MethodId} {args : Array Value} {below : List Frame} {meth : Method} {c : Code} {T : State} {locs : List Loc} {cells slots : Nat} {bytes : ByteArray} {own : String} {Z : State} {ml : Nat} {P : State → Outcome → Prop} {pc pc' : Nat} {L L' : Array Slot} {S : List Value} {a0 : Array Value} {h : Heap}
theorem own_aloadN (C : own_C p s m c bytes own Z ml) (X : Stand p l e R s m args below meth c T locs cells slots) {k : Fin 4} {v : Value} (hd : decode bytes pc = .ok (.aload_n k, 1)) (hl : L[k.val]? = some (.val v)) (hv : v.isRef = true) (hp : pc + 1 = pc') (K : own_E p e below P T (mkF m pc' L (v :: S))) : own_E p e below P T (mkF m pc L S) := by
  subst hp
  exact own_go (fun t k => XS.aloadN X.here C.1 rfl (hb C.2.1 hd) hl hv k) K
theorem own_aload (C : own_C p s m c bytes own Z ml) (X : Stand p l e R s m args below meth c T locs cells slots) {k : Nat} {v : Value} (hd : decode bytes pc = .ok (.aload k, 2)) (hl : L[k]? = some (.val v)) (hv : v.isRef = true) (hp : pc + 2 = pc') (K : own_E p e below P T (mkF m pc' L (v :: S))) : own_E p e below P T (mkF m pc L S) := by
  subst hp
  exact own_go (fun t k => XS.aload X.here C.1 rfl (hb C.2.1 hd) hl hv k) K
theorem own_iloadN (C : own_C p s m c bytes own Z ml) (X : Stand p l e R s m args below meth c T locs cells slots) {k : Fin 4} {v : Int32} (hd : decode bytes pc = .ok (.iload_n k, 1)) (hl : L[k.val]? = some (.val (.int v))) (hp : pc + 1 = pc') (K : own_E p e below P T (mkF m pc' L (.int v :: S))) : own_E p e below P T (mkF m pc L S) := by
  subst hp
  exact own_go (fun t k => XS.iloadN X.here C.1 rfl (hb C.2.1 hd) hl k) K
theorem own_iload (C : own_C p s m c bytes own Z ml) (X : Stand p l e R s m args below meth c T locs cells slots) {k : Nat} {v : Int32} (hd : decode bytes pc = .ok (.iload k, 2)) (hl : L[k]? = some (.val (.int v))) (hp : pc + 2 = pc') (K : own_E p e below P T (mkF m pc' L (.int v :: S))) : own_E p e below P T (mkF m pc L S) := by
  subst hp
  exact own_go (fun t k => XS.iload X.here C.1 rfl (hb C.2.1 hd) hl k) K
theorem own_istoreN (C : own_C p s m c bytes own Z ml) (X : Stand p l e R s m args below meth c T locs cells slots) {k : Fin 4} {v : Int32} (hd : decode bytes pc = .ok (.istore_n k, 1)) (hl : storeLocals L k.val (.int v) = some L') (hp : pc + 1 = pc') (K : own_E p e below P T (mkF m pc' L' S)) : own_E p e below P T (mkF m pc L (.int v :: S)) := by
  subst hp
  exact own_go (fun t k => XS.istoreN X.here C.1 rfl (hb C.2.1 hd) rfl hl k) K
theorem own_istore (C : own_C p s m c bytes own Z ml) (X : Stand p l e R s m args below meth c T locs cells slots) {k : Nat} {v : Int32} (hd : decode bytes pc = .ok (.istore k, 2)) (hl : storeLocals L k (.int v) = some L') (hp : pc + 2 = pc') (K : own_E p e below P T (mkF m pc' L' S)) : own_E p e below P T (mkF m pc L (.int v :: S)) := by
  subst hp
  exact own_go (fun t k => XS.istore X.here C.1 rfl (hb C.2.1 hd) rfl hl k) K
theorem own_lloadN (C : own_C p s m c bytes own Z ml) (X : Stand p l e R s m args below meth c T locs cells slots) {k : Fin 4} {v : Int64} (hd : decode bytes pc = .ok (.lload_n k, 1)) (hl : L[k.val]? = some (.val (.long v))) (hp : pc + 1 = pc') (K : own_E p e below P T (mkF m pc' L (.long v :: S))) : own_E p e below P T (mkF m pc L S) := by
  subst hp
  exact own_go (fun t k => XS.lloadN X.here C.1 rfl (hb C.2.1 hd) hl k) K
theorem own_lload (C : own_C p s m c bytes own Z ml) (X : Stand p l e R s m args below meth c T locs cells slots) {k : Nat} {v : Int64} (hd : decode bytes pc = .ok (.lload k, 2)) (hl : L[k]? = some (.val (.long v))) (hp : pc + 2 = pc') (K : own_E p e below P T (mkF m pc' L (.long v :: S))) : own_E p e below P T (mkF m pc L S) := by
  subst hp
  exact own_go (fun t k => XS.lload X.here C.1 rfl (hb C.2.1 hd) hl k) K
theorem own_lstoreN (C : own_C p s m c bytes own Z ml) (X : Stand p l e R s m args below meth c T locs cells slots) {k : Fin 4} {v : Int64} (hd : decode bytes pc = .ok (.lstore_n k, 1)) (hl : storeLocals L k.val (.long v) = some L') (hp : pc + 1 = pc') (K : own_E p e below P T (mkF m pc' L' S)) : own_E p e below P T (mkF m pc L (.long v :: S)) := by
  subst hp
  exact own_go (fun t k => XS.lstoreN X.here C.1 rfl (hb C.2.1 hd) rfl hl k) K
theorem own_lstore (C : own_C p s m c bytes own Z ml) (X : Stand p l e R s m args below meth c T locs cells slots) {k : Nat} {v : Int64} (hd : decode bytes pc = .ok (.lstore k, 2)) (hl : storeLocals L k (.long v) = some L') (hp : pc + 2 = pc') (K : own_E p e below P T (mkF m pc' L' S)) : own_E p e below P T (mkF m pc L (.long v :: S)) := by
  subst hp
  exact own_go (fun t k => XS.lstore X.here C.1 rfl (hb C.2.1 hd) rfl hl k) K
theorem own_astoreN (C : own_C p s m c bytes own Z ml) (X : Stand p l e R s m args below meth c T locs cells slots) {k : Fin 4} {v : Value} (hd : decode bytes pc = .ok (.astore_n k, 1)) (hv : v.isRef = true) (hl : storeLocals L k.val v = some L') (hp : pc + 1 = pc') (K : own_E p e below P T (mkF m pc' L' S)) : own_E p e below P T (mkF m pc L (v :: S)) := by
  subst hp
  exact own_go (fun t k => XS.astoreN X.here C.1 rfl (hb C.2.1 hd) rfl hv hl k) K
theorem own_astore (C : own_C p s m c bytes own Z ml) (X : Stand p l e R s m args below meth c T locs cells slots) {k : Nat} {v : Value} (hd : decode bytes pc = .ok (.astore k, 2)) (hv : v.isRef = true) (hl : storeLocals L k v = some L') (hp : pc + 2 = pc') (K : own_E p e below P T (mkF m pc' L' S)) : own_E p e below P T (mkF m pc L (v :: S)) := by
  subst hp
  exact own_go (fun t k => XS.astore X.here C.1 rfl (hb C.2.1 hd) rfl hv hl k) K
theorem own_iconst (C : own_C p s m c bytes own Z ml) (X : Stand p l e R s m args below meth c T locs cells slots) {i : Int} (z : Int32) (hd : decode bytes pc = .ok (.iconst i, 1)) (hz : Int32.ofInt i = z) (hp : pc + 1 = pc') (K : own_E p e below P T (mkF m pc' L (.int z :: S))) : own_E p e below P T (mkF m pc L S) := by
  subst hp hz
  exact own_go (fun t k => XS.iconst X.here C.1 rfl (hb C.2.1 hd) k) K
theorem own_bipush (C : own_C p s m c bytes own Z ml) (X : Stand p l e R s m args below meth c T locs cells slots) {i : Int} (z : Int32) (hd : decode bytes pc = .ok (.bipush i, 2)) (hz : (Int8.ofInt i).toInt32 = z) (hp : pc + 2 = pc') (K : own_E p e below P T (mkF m pc' L (.int z :: S))) : own_E p e below P T (mkF m pc L S) := by
  subst hp hz
  exact own_go (fun t k => XS.bipush X.here C.1 rfl (hb C.2.1 hd) k) K
theorem own_sipush (C : own_C p s m c bytes own Z ml) (X : Stand p l e R s m args below meth c T locs cells slots) {i : Int} (z : Int32) (hd : decode bytes pc = .ok (.sipush i, 3)) (hz : (Int16.ofInt i).toInt32 = z) (hp : pc + 3 = pc') (K : own_E p e below P T (mkF m pc' L (.int z :: S))) : own_E p e below P T (mkF m pc L S) := by
  subst hp hz
  exact own_go (fun t k => XS.sipush X.here C.1 rfl (hb C.2.1 hd) k) K
theorem own_lconst (C : own_C p s m c bytes own Z ml) (X : Stand p l e R s m args below meth c T locs cells slots) {i : Fin 2} (z : Int64) (hd : decode bytes pc = .ok (.lconst i, 1)) (hz : Int64.ofNat i = z) (hp : pc + 1 = pc') (K : own_E p e below P T (mkF m pc' L (.long z :: S))) : own_E p e below P T (mkF m pc L S) := by
  subst hp hz
  exact own_go (fun t k => XS.lconst X.here C.1 rfl (hb C.2.1 hd) k) K
theorem own_aconstNull (C : own_C p s m c bytes own Z ml) (X : Stand p l e R s m args below meth c T locs cells slots)  (hd : decode bytes pc = .ok (.aconst_null, 1)) (hp : pc + 1 = pc') (K : own_E p e below P T (mkF m pc' L (.null :: S))) : own_E p e below P T (mkF m pc L S) := by
  subst hp
  exact own_go (fun t k => XS.aconstNull X.here C.1 rfl (hb C.2.1 hd) k) K
theorem own_iadd (C : own_C p s m c bytes own Z ml) (X : Stand p l e R s m args below meth c T locs cells slots) {x y : Int32} (hd : decode bytes pc = .ok (.iadd, 1)) (hp : pc + 1 = pc') (K : own_E p e below P T (mkF m pc' L (.int (x + y) :: S))) : own_E p e below P T (mkF m pc L (.int y :: .int x :: S)) := by
  subst hp
  exact own_go (fun t k => XS.iadd X.here C.1 rfl (hb C.2.1 hd) rfl k) K
theorem own_ladd (C : own_C p s m c bytes own Z ml) (X : Stand p l e R s m args below meth c T locs cells slots) {x y : Int64} (hd : decode bytes pc = .ok (.ladd, 1)) (hp : pc + 1 = pc') (K : own_E p e below P T (mkF m pc' L (.long (x + y) :: S))) : own_E p e below P T (mkF m pc L (.long y :: .long x :: S)) := by
  subst hp
  exact own_go (fun t k => XS.ladd X.here C.1 rfl (hb C.2.1 hd) rfl k) K
theorem own_isub (C : own_C p s m c bytes own Z ml) (X : Stand p l e R s m args below meth c T locs cells slots) {x y : Int32} (hd : decode bytes pc = .ok (.isub, 1)) (hp : pc + 1 = pc') (K : own_E p e below P T (mkF m pc' L (.int (x - y) :: S))) : own_E p e below P T (mkF m pc L (.int y :: .int x :: S)) := by
  subst hp
  exact own_go (fun t k => XS.isub X.here C.1 rfl (hb C.2.1 hd) rfl k) K
theorem own_lsub (C : own_C p s m c bytes own Z ml) (X : Stand p l e R s m args below meth c T locs cells slots) {x y : Int64} (hd : decode bytes pc = .ok (.lsub, 1)) (hp : pc + 1 = pc') (K : own_E p e below P T (mkF m pc' L (.long (x - y) :: S))) : own_E p e below P T (mkF m pc L (.long y :: .long x :: S)) := by
  subst hp
  exact own_go (fun t k => XS.lsub X.here C.1 rfl (hb C.2.1 hd) rfl k) K
theorem own_imul (C : own_C p s m c bytes own Z ml) (X : Stand p l e R s m args below meth c T locs cells slots) {x y : Int32} (hd : decode bytes pc = .ok (.imul, 1)) (hp : pc + 1 = pc') (K : own_E p e below P T (mkF m pc' L (.int (x * y) :: S))) : own_E p e below P T (mkF m pc L (.int y :: .int x :: S)) := by
  subst hp
  exact own_go (fun t k => XS.imul X.here C.1 rfl (hb C.2.1 hd) rfl k) K
theorem own_lmul (C : own_C p s m c bytes own Z ml) (X : Stand p l e R s m args below meth c T locs cells slots) {x y : Int64} (hd : decode bytes pc = .ok (.lmul, 1)) (hp : pc + 1 = pc') (K : own_E p e below P T (mkF m pc' L (.long (x * y) :: S))) : own_E p e below P T (mkF m pc L (.long y :: .long x :: S)) := by
  subst hp
  exact own_go (fun t k => XS.lmul X.here C.1 rfl (hb C.2.1 hd) rfl k) K
theorem own_iand (C : own_C p s m c bytes own Z ml) (X : Stand p l e R s m args below meth c T locs cells slots) {x y : Int32} (hd : decode bytes pc = .ok (.iand, 1)) (hp : pc + 1 = pc') (K : own_E p e below P T (mkF m pc' L (.int (x &&& y) :: S))) : own_E p e below P T (mkF m pc L (.int y :: .int x :: S)) := by
  subst hp
  exact own_go (fun t k => XS.iand X.here C.1 rfl (hb C.2.1 hd) rfl k) K
theorem own_land (C : own_C p s m c bytes own Z ml) (X : Stand p l e R s m args below meth c T locs cells slots) {x y : Int64} (hd : decode bytes pc = .ok (.land, 1)) (hp : pc + 1 = pc') (K : own_E p e below P T (mkF m pc' L (.long (x &&& y) :: S))) : own_E p e below P T (mkF m pc L (.long y :: .long x :: S)) := by
  subst hp
  exact own_go (fun t k => XS.land X.here C.1 rfl (hb C.2.1 hd) rfl k) K
theorem own_ior (C : own_C p s m c bytes own Z ml) (X : Stand p l e R s m args below meth c T locs cells slots) {x y : Int32} (hd : decode bytes pc = .ok (.ior, 1)) (hp : pc + 1 = pc') (K : own_E p e below P T (mkF m pc' L (.int (x ||| y) :: S))) : own_E p e below P T (mkF m pc L (.int y :: .int x :: S)) := by
  subst hp
  exact own_go (fun t k => XS.ior X.here C.1 rfl (hb C.2.1 hd) rfl k) K
theorem own_lor (C : own_C p s m c bytes own Z ml) (X : Stand p l e R s m args below meth c T locs cells slots) {x y : Int64} (hd : decode bytes pc = .ok (.lor, 1)) (hp : pc + 1 = pc') (K : own_E p e below P T (mkF m pc' L (.long (x ||| y) :: S))) : own_E p e below P T (mkF m pc L (.long y :: .long x :: S)) := by
  subst hp
  exact own_go (fun t k => XS.lor X.here C.1 rfl (hb C.2.1 hd) rfl k) K
theorem own_ixor (C : own_C p s m c bytes own Z ml) (X : Stand p l e R s m args below meth c T locs cells slots) {x y : Int32} (hd : decode bytes pc = .ok (.ixor, 1)) (hp : pc + 1 = pc') (K : own_E p e below P T (mkF m pc' L (.int (x ^^^ y) :: S))) : own_E p e below P T (mkF m pc L (.int y :: .int x :: S)) := by
  subst hp
  exact own_go (fun t k => XS.ixor X.here C.1 rfl (hb C.2.1 hd) rfl k) K
theorem own_lxor (C : own_C p s m c bytes own Z ml) (X : Stand p l e R s m args below meth c T locs cells slots) {x y : Int64} (hd : decode bytes pc = .ok (.lxor, 1)) (hp : pc + 1 = pc') (K : own_E p e below P T (mkF m pc' L (.long (x ^^^ y) :: S))) : own_E p e below P T (mkF m pc L (.long y :: .long x :: S)) := by
  subst hp
  exact own_go (fun t k => XS.lxor X.here C.1 rfl (hb C.2.1 hd) rfl k) K
theorem own_ishl (C : own_C p s m c bytes own Z ml) (X : Stand p l e R s m args below meth c T locs cells slots) {x y : Int32} (hd : decode bytes pc = .ok (.ishl, 1)) (hp : pc + 1 = pc') (K : own_E p e below P T (mkF m pc' L (.int (x <<< (y &&& 31)) :: S))) : own_E p e below P T (mkF m pc L (.int y :: .int x :: S)) := by
  subst hp
  exact own_go (fun t k => XS.ishl X.here C.1 rfl (hb C.2.1 hd) rfl k) K
theorem own_ishr (C : own_C p s m c bytes own Z ml) (X : Stand p l e R s m args below meth c T locs cells slots) {x y : Int32} (hd : decode bytes pc = .ok (.ishr, 1)) (hp : pc + 1 = pc') (K : own_E p e below P T (mkF m pc' L (.int (x >>> (y &&& 31)) :: S))) : own_E p e below P T (mkF m pc L (.int y :: .int x :: S)) := by
  subst hp
  exact own_go (fun t k => XS.ishr X.here C.1 rfl (hb C.2.1 hd) rfl k) K
theorem own_iushr (C : own_C p s m c bytes own Z ml) (X : Stand p l e R s m args below meth c T locs cells slots) {x y : Int32} (hd : decode bytes pc = .ok (.iushr, 1)) (hp : pc + 1 = pc') (K : own_E p e below P T (mkF m pc' L (.int ((x.toUInt32 >>> (y &&& 31).toUInt32).toInt32) :: S))) : own_E p e below P T (mkF m pc L (.int y :: .int x :: S)) := by
  subst hp
  exact own_go (fun t k => XS.iushr X.here C.1 rfl (hb C.2.1 hd) rfl k) K
theorem own_lshl (C : own_C p s m c bytes own Z ml) (X : Stand p l e R s m args below meth c T locs cells slots) {x : Int64} {y : Int32} (hd : decode bytes pc = .ok (.lshl, 1)) (hp : pc + 1 = pc') (K : own_E p e below P T (mkF m pc' L (.long (x <<< (y &&& 0x3f).toInt64) :: S))) : own_E p e below P T (mkF m pc L (.int y :: .long x :: S)) := by
  subst hp
  exact own_go (fun t k => XS.lshl X.here C.1 rfl (hb C.2.1 hd) rfl k) K
theorem own_lshr (C : own_C p s m c bytes own Z ml) (X : Stand p l e R s m args below meth c T locs cells slots) {x : Int64} {y : Int32} (hd : decode bytes pc = .ok (.lshr, 1)) (hp : pc + 1 = pc') (K : own_E p e below P T (mkF m pc' L (.long (x >>> (y &&& 0x3f).toInt64) :: S))) : own_E p e below P T (mkF m pc L (.int y :: .long x :: S)) := by
  subst hp
  exact own_go (fun t k => XS.lshr X.here C.1 rfl (hb C.2.1 hd) rfl k) K
theorem own_lushr (C : own_C p s m c bytes own Z ml) (X : Stand p l e R s m args below meth c T locs cells slots) {x : Int64} {y : Int32} (hd : decode bytes pc = .ok (.lushr, 1)) (hp : pc + 1 = pc') (K : own_E p e below P T (mkF m pc' L (.long ((x.toUInt64 >>> (y &&& 0x3f).toInt64.toUInt64).toInt64) :: S))) : own_E p e below P T (mkF m pc L (.int y :: .long x :: S)) := by
  subst hp
  exact own_go (fun t k => XS.lushr X.here C.1 rfl (hb C.2.1 hd) rfl k) K
theorem own_ineg (C : own_C p s m c bytes own Z ml) (X : Stand p l e R s m args below meth c T locs cells slots) {x : Int32} (hd : decode bytes pc = .ok (.ineg, 1)) (hp : pc + 1 = pc') (K : own_E p e below P T (mkF m pc' L (.int (-x) :: S))) : own_E p e below P T (mkF m pc L (.int x :: S)) := by
  subst hp
  exact own_go (fun t k => XS.ineg X.here C.1 rfl (hb C.2.1 hd) rfl k) K
theorem own_lneg (C : own_C p s m c bytes own Z ml) (X : Stand p l e R s m args below meth c T locs cells slots) {x : Int64} (hd : decode bytes pc = .ok (.lneg, 1)) (hp : pc + 1 = pc') (K : own_E p e below P T (mkF m pc' L (.long (-x) :: S))) : own_E p e below P T (mkF m pc L (.long x :: S)) := by
  subst hp
  exact own_go (fun t k => XS.lneg X.here C.1 rfl (hb C.2.1 hd) rfl k) K
theorem own_i2l (C : own_C p s m c bytes own Z ml) (X : Stand p l e R s m args below meth c T locs cells slots) {x : Int32} (hd : decode bytes pc = .ok (.i2l, 1)) (hp : pc + 1 = pc') (K : own_E p e below P T (mkF m pc' L (.long x.toInt64 :: S))) : own_E p e below P T (mkF m pc L (.int x :: S)) := by
  subst hp
  exact own_go (fun t k => XS.i2l X.here C.1 rfl (hb C.2.1 hd) rfl k) K
theorem own_l2i (C : own_C p s m c bytes own Z ml) (X : Stand p l e R s m args below meth c T locs cells slots) {x : Int64} (hd : decode bytes pc = .ok (.l2i, 1)) (hp : pc + 1 = pc') (K : own_E p e below P T (mkF m pc' L (.int x.toInt32 :: S))) : own_E p e below P T (mkF m pc L (.long x :: S)) := by
  subst hp
  exact own_go (fun t k => XS.l2i X.here C.1 rfl (hb C.2.1 hd) rfl k) K
theorem own_i2b (C : own_C p s m c bytes own Z ml) (X : Stand p l e R s m args below meth c T locs cells slots) {x : Int32} (hd : decode bytes pc = .ok (.i2b, 1)) (hp : pc + 1 = pc') (K : own_E p e below P T (mkF m pc' L (.int x.toInt8.toInt32 :: S))) : own_E p e below P T (mkF m pc L (.int x :: S)) := by
  subst hp
  exact own_go (fun t k => XS.i2b X.here C.1 rfl (hb C.2.1 hd) rfl k) K
theorem own_i2c (C : own_C p s m c bytes own Z ml) (X : Stand p l e R s m args below meth c T locs cells slots) {x : Int32} (hd : decode bytes pc = .ok (.i2c, 1)) (hp : pc + 1 = pc') (K : own_E p e below P T (mkF m pc' L (.int x.toUInt32.toUInt16.toUInt32.toInt32 :: S))) : own_E p e below P T (mkF m pc L (.int x :: S)) := by
  subst hp
  exact own_go (fun t k => XS.i2c X.here C.1 rfl (hb C.2.1 hd) rfl k) K
theorem own_dup (C : own_C p s m c bytes own Z ml) (X : Stand p l e R s m args below meth c T locs cells slots) {x : Value} (hd : decode bytes pc = .ok (.dup, 1)) (hc : x.category = 1) (hp : pc + 1 = pc') (K : own_E p e below P T (mkF m pc' L (x :: x :: S))) : own_E p e below P T (mkF m pc L (x :: S)) := by
  subst hp
  exact own_go (fun t k => XS.dup X.here C.1 rfl (hb C.2.1 hd) rfl hc k) K
theorem own_pop (C : own_C p s m c bytes own Z ml) (X : Stand p l e R s m args below meth c T locs cells slots) {x : Value} (hd : decode bytes pc = .ok (.pop, 1)) (hc : x.category = 1) (hp : pc + 1 = pc') (K : own_E p e below P T (mkF m pc' L S)) : own_E p e below P T (mkF m pc L (x :: S)) := by
  subst hp
  exact own_go (fun t k => XS.pop X.here C.1 rfl (hb C.2.1 hd) rfl hc k) K
theorem own_lcmp (C : own_C p s m c bytes own Z ml) (X : Stand p l e R s m args below meth c T locs cells slots) {x y : Int64} (hd : decode bytes pc = .ok (.lcmp, 1)) (hp : pc + 1 = pc') (K : own_E p e below P T (mkF m pc' L (.int (lcmpW x y) :: S))) : own_E p e below P T (mkF m pc L (.long y :: .long x :: S)) := by
  subst hp
  exact own_go (fun t k => XS.lcmp X.here C.1 rfl (hb C.2.1 hd) rfl k) K
theorem own_irem (C : own_C p s m c bytes own Z ml) (X : Stand p l e R s m args below meth c T locs cells slots) {x y : Int32} (hy : y ≠ 0) (hd : decode bytes pc = .ok (.irem, 1)) (hp : pc + 1 = pc') (K : own_E p e below P T (mkF m pc' L (.int (x % y) :: S))) : own_E p e below P T (mkF m pc L (.int y :: .int x :: S)) := by
  subst hp
  exact own_go (fun t k => iremM X C.1 rfl (hb C.2.1 hd) rfl hy k) K
theorem own_goto (C : own_C p s m c bytes own Z ml) (X : Stand p l e R s m args below meth c T locs cells slots) {o : Int} (hd : decode bytes pc = .ok (.goto o, 3)) (ho : 0 ≤ (pc : Int) + o) (hp : ((pc : Int) + o).toNat = pc') (K : own_E p e below P T (mkF m pc' L S)) : own_E p e below P T (mkF m pc L S) := by
  exact own_go (fun t k => XS.goto X.here C.1 rfl rfl (hb C.2.1 hd) ho hp k) K
theorem own_ifY (C : own_C p s m c bytes own Z ml) (X : Stand p l e R s m args below meth c T locs cells slots) {cd : ClassFile.Cond} {x : Int32} {o : Int} (hd : decode bytes pc = .ok (.ifCond cd o, 3)) (hc : ifCond.holds cd x = true) (ho : 0 ≤ (pc : Int) + o) (hp : ((pc : Int) + o).toNat = pc') (K : own_E p e below P T (mkF m pc' L S)) : own_E p e below P T (mkF m pc L (.int x :: S)) := by
  exact own_go (fun t k => XS.ifYes X.here C.1 rfl rfl (hb C.2.1 hd) rfl hc ho hp k) K
theorem own_ifN (C : own_C p s m c bytes own Z ml) (X : Stand p l e R s m args below meth c T locs cells slots) {cd : ClassFile.Cond} {x : Int32} {o : Int} (hd : decode bytes pc = .ok (.ifCond cd o, 3)) (hc : ifCond.holds cd x = false) (hp : pc + 3 = pc') (K : own_E p e below P T (mkF m pc' L S)) : own_E p e below P T (mkF m pc L (.int x :: S)) := by
  subst hp
  exact own_go (fun t k => XS.ifNo X.here C.1 rfl (hb C.2.1 hd) rfl hc k) K
theorem own_icmpY (C : own_C p s m c bytes own Z ml) (X : Stand p l e R s m args below meth c T locs cells slots) {cd : ClassFile.Cond} {x y : Int32} {o : Int} (hd : decode bytes pc = .ok (.if_icmp cd o, 3)) (hc : if_icmp.holds cd x y = true) (ho : 0 ≤ (pc : Int) + o) (hp : ((pc : Int) + o).toNat = pc') (K : own_E p e below P T (mkF m pc' L S)) : own_E p e below P T (mkF m pc L (.int y :: .int x :: S)) := by
  exact own_go (fun t k => XS.icmpYes X.here C.1 rfl rfl (hb C.2.1 hd) rfl hc ho hp k) K
theorem own_icmpN (C : own_C p s m c bytes own Z ml) (X : Stand p l e R s m args below meth c T locs cells slots) {cd : ClassFile.Cond} {x y : Int32} {o : Int} (hd : decode bytes pc = .ok (.if_icmp cd o, 3)) (hc : if_icmp.holds cd x y = false) (hp : pc + 3 = pc') (K : own_E p e below P T (mkF m pc' L S)) : own_E p e below P T (mkF m pc L (.int y :: .int x :: S)) := by
  subst hp
  exact own_go (fun t k => XS.icmpNo X.here C.1 rfl (hb C.2.1 hd) rfl hc k) K
theorem own_lswY (C : own_C p s m c bytes own Z ml) (X : Stand p l e R s m args below meth c T locs cells slots) {z : Int32} {d : Int} {ps : Array (Int × Int)} {len : Nat} {a off : Int} (hd : decode bytes pc = .ok (.lookupswitch d ps, len)) (hs : (ps.toList.zip (ps.toList.drop 1)).all (fun (a, next) => a.1 < next.1) = true) (hf : ps.find? (·.1 == z.toInt) = some (a, off)) (ho : 0 ≤ (pc : Int) + off) (hp : ((pc : Int) + off).toNat = pc') (K : own_E p e below P T (mkF m pc' L S)) : own_E p e below P T (mkF m pc L (.int z :: S)) := by
  subst hp
  exact own_go (fun t k => X.lookupswitchHit C.1 (g := mkF m pc L (.int z :: S)) rfl rfl (hb C.2.1 hd) hs hf ho t k) K
theorem own_lswN (C : own_C p s m c bytes own Z ml) (X : Stand p l e R s m args below meth c T locs cells slots) {z : Int32} {d : Int} {ps : Array (Int × Int)} {len : Nat} (hd : decode bytes pc = .ok (.lookupswitch d ps, len)) (hs : (ps.toList.zip (ps.toList.drop 1)).all (fun (a, next) => a.1 < next.1) = true) (hf : ps.find? (·.1 == z.toInt) = none) (ho : 0 ≤ (pc : Int) + d) (hp : ((pc : Int) + d).toNat = pc') (K : own_E p e below P T (mkF m pc' L S)) : own_E p e below P T (mkF m pc L (.int z :: S)) := by
  subst hp
  exact own_go (fun t k => X.lookupswitchMiss C.1 (g := mkF m pc L (.int z :: S)) rfl rfl (hb C.2.1 hd) hs hf ho t k) K
theorem own_ldcI (C : own_C p s m c bytes own Z ml) (X : Stand p l e R s m args below meth c T locs cells slots) {i : Nat} {v : Int32} (w : (Cond.constant own i v).before a0 Z = true) (hd : decode bytes pc = .ok (.ldc i, 2)) (hp : pc + 2 = pc') (K : own_E p e below P T (mkF m pc' L (.int v :: S))) : own_E p e below P T (mkF m pc L S) := by
  subst hp
  exact own_go (fun t k => X.ldcInt C.1 C.2.2.2.1 (mvT C.2.2.1 w) (g := mkF m pc L S) rfl (hb C.2.1 hd) t k) K
theorem own_ldcJ (C : own_C p s m c bytes own Z ml) (X : Stand p l e R s m args below meth c T locs cells slots) {i : Nat} {v : Int64} (w : (Cond.constantLong own i v).before a0 Z = true) (hd : decode bytes pc = .ok (.ldc2_w i, 3)) (hp : pc + 3 = pc') (K : own_E p e below P T (mkF m pc' L (.long v :: S))) : own_E p e below P T (mkF m pc L S) := by
  subst hp
  exact own_go (fun t k => X.ldc2Long C.1 C.2.2.2.1 (mvT C.2.2.1 w) (g := mkF m pc L S) rfl (hb C.2.1 hd) t k) K
theorem own_iaload (C : own_C p s m c bytes own Z ml) (X : Stand p l e R s m args below meth c T locs cells slots) {a : Addr} {cl : Cell} {j : Int32} {v : Value} (eT : T.heap = h) (A : Arr Z h a cl .int) (hj : ¬ (j < 0 ∨ cl.slots.size ≤ j.toNatClampNeg)) (hv : cl.slots[j.toNatClampNeg]? = some v) (hd : decode bytes pc = .ok (.iaload, 1)) (hp : pc + 1 = pc') (K : own_E p e below P T (mkF m pc' L (v :: S))) : own_E p e below P T (mkF m pc L (.int j :: .ref a :: S)) := by
  subst hp
  exact own_go (fun t k => X.iaload C.1 (by rw [eT]; exact A.1) (State.isArrayOf_alike C.2.2.1.alike A.2.1) A.2.2 hj hv (g := mkF m pc L (.int j :: .ref a :: S)) rfl rfl (hb C.2.1 hd) t k) K
theorem own_laload (C : own_C p s m c bytes own Z ml) (X : Stand p l e R s m args below meth c T locs cells slots) {a : Addr} {cl : Cell} {j : Int32} {v : Value} (eT : T.heap = h) (A : Arr Z h a cl .long) (hj : ¬ (j < 0 ∨ cl.slots.size ≤ j.toNatClampNeg)) (hv : cl.slots[j.toNatClampNeg]? = some v) (hd : decode bytes pc = .ok (.laload, 1)) (hp : pc + 1 = pc') (K : own_E p e below P T (mkF m pc' L (v :: S))) : own_E p e below P T (mkF m pc L (.int j :: .ref a :: S)) := by
  subst hp
  exact own_go (fun t k => X.laload C.1 (by rw [eT]; exact A.1) (State.isArrayOf_alike C.2.2.1.alike A.2.1) A.2.2 hj hv (g := mkF m pc L (.int j :: .ref a :: S)) rfl rfl (hb C.2.1 hd) t k) K
theorem own_baload (C : own_C p s m c bytes own Z ml) (X : Stand p l e R s m args below meth c T locs cells slots) {a : Addr} {cl : Cell} {j : Int32} {v : Value} (eT : T.heap = h) (A : Arr Z h a cl .byte) (hj : ¬ (j < 0 ∨ cl.slots.size ≤ j.toNatClampNeg)) (hv : cl.slots[j.toNatClampNeg]? = some v) (hd : decode bytes pc = .ok (.baload, 1)) (hp : pc + 1 = pc') (K : own_E p e below P T (mkF m pc' L (v :: S))) : own_E p e below P T (mkF m pc L (.int j :: .ref a :: S)) := by
  subst hp
  exact own_go (fun t k => X.baloadBytes C.1 (by rw [eT]; exact A.1) (State.isArrayOf_alike C.2.2.1.alike A.2.1) A.2.2 hj hv (g := mkF m pc L (.int j :: .ref a :: S)) rfl rfl (hb C.2.1 hd) t k) K
theorem own_alen (C : own_C p s m c bytes own Z ml) (X : Stand p l e R s m args below meth c T locs cells slots) {a : Addr} {cl : Cell} {ty : FieldType} {z : Int32} (eT : T.heap = h) (A : Arr Z h a cl ty) (hz : cl.slots.size.toInt32 = z) (hd : decode bytes pc = .ok (.arraylength, 1)) (hp : pc + 1 = pc') (K : own_E p e below P T (mkF m pc' L (.int z :: S))) : own_E p e below P T (mkF m pc L (.ref a :: S)) := by
  subst hp hz
  exact own_go (fun t k => X.arraylength C.1 (by rw [eT]; exact A.1) (State.isArrayOf_alike C.2.2.1.alike A.2.1) (g := mkF m pc L (.ref a :: S)) rfl rfl (hb C.2.1 hd) t k) K
theorem own_iastore (C : own_C p s m c bytes own Z ml) (X : Stand p l e R s m args below meth c T locs cells slots) {a : Addr} {cl : Cell} {j : Int32} {x : Int32} (eT : T.heap = h) (A : Arr Z h a cl .int) (hj : ¬ (j < 0 ∨ cl.slots.size ≤ j.toNatClampNeg)) (hd : decode bytes pc = .ok (.iastore, 1)) (hp : pc + 1 = pc') (K : ∀ T' h', Stand p l e R s m args below meth c T' (locs ++ [⟨a, j.toNatClampNeg⟩]) cells slots → T'.heap = h' → Wr h h' a j.toNatClampNeg (.int x) → Arr Z h' a (cl.setSlot j.toNatClampNeg (.int x)) .int → own_E p e below P T' (mkF m pc' L S)) : own_E p e below P T (mkF m pc L (.int x :: .int j :: .ref a :: S)) := by
  subst hp
  obtain ⟨T', h', X', e', W', st⟩ := stI X C.1 C.2.2.1 eT A hj (g := mkF m pc L (.int x :: .int j :: .ref a :: S)) rfl rfl (hb C.2.1 hd)
  exact own_go st (K T' h' X' e' W' (A.same W'))
theorem own_lastore (C : own_C p s m c bytes own Z ml) (X : Stand p l e R s m args below meth c T locs cells slots) {a : Addr} {cl : Cell} {j : Int32} {x : Int64} (eT : T.heap = h) (A : Arr Z h a cl .long) (hj : ¬ (j < 0 ∨ cl.slots.size ≤ j.toNatClampNeg)) (hd : decode bytes pc = .ok (.lastore, 1)) (hp : pc + 1 = pc') (K : ∀ T' h', Stand p l e R s m args below meth c T' (locs ++ [⟨a, j.toNatClampNeg⟩]) cells slots → T'.heap = h' → Wr h h' a j.toNatClampNeg (.long x) → Arr Z h' a (cl.setSlot j.toNatClampNeg (.long x)) .long → own_E p e below P T' (mkF m pc' L S)) : own_E p e below P T (mkF m pc L (.long x :: .int j :: .ref a :: S)) := by
  subst hp
  obtain ⟨T', h', X', e', W', st⟩ := stJ X C.1 C.2.2.1 eT A hj (g := mkF m pc L (.long x :: .int j :: .ref a :: S)) rfl rfl (hb C.2.1 hd)
  exact own_go st (K T' h' X' e' W' (A.same W'))
theorem own_bastore (C : own_C p s m c bytes own Z ml) (X : Stand p l e R s m args below meth c T locs cells slots) {a : Addr} {cl : Cell} {j : Int32} {x : Int32} (eT : T.heap = h) (A : Arr Z h a cl .byte) (hj : ¬ (j < 0 ∨ cl.slots.size ≤ j.toNatClampNeg)) (hd : decode bytes pc = .ok (.bastore, 1)) (hp : pc + 1 = pc') (K : ∀ T' h', Stand p l e R s m args below meth c T' (locs ++ [⟨a, j.toNatClampNeg⟩]) cells slots → T'.heap = h' → Wr h h' a j.toNatClampNeg (.int (nar .byte x)) → Arr Z h' a (cl.setSlot j.toNatClampNeg (.int (nar .byte x))) .byte → own_E p e below P T' (mkF m pc' L S)) : own_E p e below P T (mkF m pc L (.int x :: .int j :: .ref a :: S)) := by
  subst hp
  obtain ⟨T', h', X', e', W', st⟩ := stB X C.1 C.2.2.1 eT A hj (g := mkF m pc L (.int x :: .int j :: .ref a :: S)) rfl rfl (hb C.2.1 hd)
  exact own_go st (K T' h' X' e' W' (A.same W'))
theorem own_newP (C : own_C p s m c bytes own Z ml) (X : Stand p l e R s m args below meth c T locs cells slots) {aty : ArrayType} {n : Int32} (cap : Nat) (w : (Cond.arrayClass (newarray.typeOf aty)).before a0 Z = true) (eT : T.heap = h) (hn : ¬ n < 0) (hcap : n.toNatClampNeg ≤ cap) (hb8 : cap * 8 ≤ 536870912) (hc : cells + 1 ≤ R.cells) (hl : slots + cap ≤ R.slots) (hd : decode bytes pc = .ok (.newarray aty, 2)) (hp : pc + 2 = pc') (K : ∀ T' h' a cA, Stand p l e R s m args below meth c T' locs (cells + 1) (slots + cap) → T'.heap = h' → a = h.size → Ext h h' → Arr Z h' a (newA cA (newarray.typeOf aty) n) (newarray.typeOf aty) → own_E p e below P T' (mkF m pc' L (.ref a :: S))) : own_E p e below P T (mkF m pc L (.int n :: S)) := by
  subst hp
  obtain ⟨T', h', cA, X', e', E', A', st⟩ := newP X C.1 C.2.2.1 w eT (g := mkF m pc L (.int n :: S)) rfl (hb C.2.1 hd) rfl hn (cap := cap) hcap hb8 hc hl
  exact own_go st (K T' h' _ cA X' e' rfl E' A')
theorem own_newO (C : own_C p s m c bytes own Z ml) (X : Stand p l e R s m args below meth c T locs cells slots) {Cn : String} {i n : Nat} (w : (Cond.classLink own i Cn).before a0 Z = true) (wi : (Cond.instantiable Cn n).before a0 Z = true) (wz : (Cond.initialized Cn).before a0 Z = true) (eT : T.heap = h) (hc : cells + 1 ≤ R.cells) (hl : slots + n ≤ R.slots) (hd : decode bytes pc = .ok (.new i, 3)) (hp : pc + 3 = pc') (K : ∀ T' h' a, Stand p l e R s m args below meth c T' locs (cells + 1) (slots + n) → T'.heap = h' → a = h.size → Ext h h' → Exa Z h' a Cn → (∀ {O nm d : String} {ty : FieldType}, Laid Z a0 Cn O nm d → parseFieldDescriptor d = some ty → Fld Z h' a O nm d (defaultValue ty)) → own_E p e below P T' (mkF m pc' L (.ref a :: S))) : own_E p e below P T (mkF m pc L S) := by
  subst hp
  obtain ⟨T', h', X', e', E', A', D', -, st⟩ := newO X C.1 C.2.2.1 C.2.2.2.1 w wi wz eT (g := mkF m pc L S) rfl (hb C.2.1 hd) hc hl
  exact own_go st (K T' h' _ X' e' rfl E' A' D')
theorem own_getF (C : own_C p s m c bytes own Z ml) (X : Stand p l e R s m args below meth c T locs cells slots) {R0 O n d : String} {i : Nat} {a : Addr} {v : Value} (w : (Cond.fieldLink own i R0 n d).before a0 Z = true) (via : Via Z R0 O n d) (eT : T.heap = h) (F : Fld Z h a O n d v) (hd : decode bytes pc = .ok (.getfield i, 3)) (hp : pc + 3 = pc') (K : ∀ T', Stand p l e R s m args below meth c T' locs cells slots → T'.heap = h → own_E p e below P T' (mkF m pc' L (v :: S))) : own_E p e below P T (mkF m pc L (.ref a :: S)) := by
  subst hp
  obtain ⟨T', X', e', st⟩ := getF X C.1 C.2.2.1 C.2.2.2.1 (host := "") (Or.inl w) via eT F (g := mkF m pc L (.ref a :: S)) rfl rfl (hb C.2.1 hd)
  exact own_go st (K T' X' e')
theorem own_putF (C : own_C p s m c bytes own Z ml) (X : Stand p l e R s m args below meth c T locs cells slots) {R0 O n d Cn : String} {i kk : Nat} {ty : FieldType} {a : Addr} {v old : Value} (w : (Cond.fieldLink own i R0 n d).before a0 Z = true) (via : Via Z R0 O n d) (eT : T.heap = h) (F : Fld Z h a O n d old) (Ex : Exa Z h a Cn) (Ly : (Cond.lays Cn O n d).before a0 Z = true ∨ ((Cond.laysFinal Cn O n d).before a0 Z = true ∧ own = O ∧ meth.name = "<init>")) (wi : (Cond.instantiable Cn kk).before a0 Z = true) (hty : parseFieldDescriptor d = some ty) (hn : narrow ty v = v) (hf : fits ty v = true) (hd : decode bytes pc = .ok (.putfield i, 3)) (hp : pc + 3 = pc') (K : ∀ T' h', Stand p l e R s m args below meth c T' (locs ++ [⟨a, Jvm.RoadKit.slotOf Z O n d⟩]) cells slots → T'.heap = h' → Wr h h' a (Jvm.RoadKit.slotOf Z O n d) v → Fld Z h' a O n d v → Exa Z h' a Cn → own_E p e below P T' (mkF m pc' L S)) : own_E p e below P T (mkF m pc L (v :: .ref a :: S)) := by
  subst hp
  obtain ⟨T', h', X', e', W', st⟩ := putF X C.1 C.2.2.1 C.2.2.2.1 (host := "") (Or.inl w) via eT F Ex Ly wi hty hn hf (g := mkF m pc L (v :: .ref a :: S)) rfl rfl (hb C.2.1 hd)
  exact own_go st (K T' h' X' e' W' (F.same W') (Ex.wr W'))
theorem own_callS (C : own_C p s m c bytes own Z ml) (X : Stand p l e R s m args below meth c T locs cells slots) {y : MethodName} {i mL : Nat} {cb : ByteArray} {rt : Option FieldType} {rm : Room} {as' : Array Value} {Q : Option Value → Heap → List Loc → Prop} {r : Value} (W : Nat) (argsL : List Value) (w1 : (Cond.methodLink own i y).before a0 Z = true) (w2 : (Cond.static y).before a0 Z = true) (w3 : (Cond.initialized y.cls).before a0 Z = true) (w4 : (Cond.code y cb mL rt).before a0 Z = true) (hy : y.cls ≠ "java/lang/invoke/MethodHandle" ∧ y.cls ≠ "java/lang/invoke/VarHandle") (eT : T.heap = h) (hM : MetFree l y (head1 [Cond.code y cb mL rt] rm) (fun a U => a = as' ∧ Z.Warmed39 U.vm ∧ U.heap = h) (fun _ _ _ _ _ => True) (fun _ U o U' => ∃ v L, o = .returned v ∧ Q v U'.heap L ∧ FrameEnd U o U' L rm.cells rm.slots)) (ha : argsL.toArray = as') (hf : rm.frames + 1 ≤ R.frames) (hlo : W + (mL + 11) + rm.locals ≤ R.locals) (hsz : L.size = ml) (hlen : ∀ sig, parseMethodDescriptor y.desc = some sig → argsL.length = sig.parameters.length) {S' : List Value} (hS : S' = argsL.reverse ++ S) (hW : (S.map fun v => v.category).sum ≤ W) (hc : cells + rm.cells ≤ R.cells) (hs : slots + rm.slots ≤ R.slots) (hd : decode bytes pc = .ok (.invokestatic i, 3)) (hp : pc + 3 = pc') (hr : ∀ v h L, Q v h L → v = some r) (K : ∀ T' Lc, Stand p l e R s m args below meth c T' (locs ++ Lc) (cells + rm.cells) (slots + rm.slots) → Q (some r) T'.heap Lc → own_E p e below P T' (mkF m pc' L (r :: S))) : own_E p e below P T (mkF m pc L S') := by
  subst hp hS ha
  obtain ⟨v, _, ⟨T', L1, k1, n1⟩, -, X', ⟨Lc, hQ, l1, y1, z1⟩, st⟩ := Jvm.LawKit.callS X C.1 (y := y) C.2.2.2.1 (mvT C.2.2.1 w1) (mvT C.2.2.1 w2) (mvT C.2.2.1 w3) (mvT C.2.2.1 w4) hy (backOf (W := W) hM C.2.2.1 w4 w3 hf hlo) (g := mkF m pc L (argsL.reverse ++ S)) rfl (hsz.trans C.2.2.2.2.symm) (argsL := argsL) (rest := S) hlen rfl (by show 2 * 0 + _ ≤ _; omega) (hb C.2.1 hd) (fun _ _ => ⟨rfl, eT, hc, hs⟩)
  dsimp only [Pt.U, Pt.locs, Pt.cells, Pt.slots] at X' l1 y1 z1 st hQ
  subst l1 y1 z1
  cases hr _ _ _ hQ
  exact own_go st (K T' Lc X' hQ)
theorem own_callI (C : own_C p s m c bytes own Z ml) (X : Stand p l e R s m args below meth c T locs cells slots) {y : MethodName} {i mL : Nat} {cb : ByteArray} {rm : Room} {as' : Array Value} {Q : Option Value → Heap → List Loc → Prop} {b : Addr} (W : Nat) (argsL : List Value) (w1 : (Cond.methodLink own i y).before a0 Z = true) (hy1 : y.name = "<init>") (w2 : (Cond.instanceMethod y).before a0 Z = true) (w3 : (Cond.initialized y.cls).before a0 Z = true) (w4 : (Cond.code y cb mL none).before a0 Z = true) (hy : y.cls ≠ "java/lang/invoke/MethodHandle" ∧ y.cls ≠ "java/lang/invoke/VarHandle") (eT : T.heap = h) (hM : MetFree l y (head1 [Cond.code y cb mL none] rm) (fun a U => a = as' ∧ Z.Warmed39 U.vm ∧ U.heap = h) (fun _ _ _ _ _ => True) (fun _ U o U' => ∃ v L, o = .returned v ∧ Q v U'.heap L ∧ FrameEnd U o U' L rm.cells rm.slots)) (ha : (.ref b :: argsL).toArray = as') (hf : rm.frames + 1 ≤ R.frames) (hlo : W + (mL + 11) + rm.locals ≤ R.locals) (hsz : L.size = ml) (hlen : ∀ sig, parseMethodDescriptor y.desc = some sig → argsL.length = sig.parameters.length) {S' : List Value} (hS : S' = argsL.reverse ++ .ref b :: S) (hW : (S.map fun v => v.category).sum ≤ W) (hc : cells + rm.cells ≤ R.cells) (hs : slots + rm.slots ≤ R.slots) (hd : decode bytes pc = .ok (.invokespecial i, 3)) (hp : pc + 3 = pc') (hr : ∀ v h L, Q v h L → v = none) (K : ∀ T' Lc, Stand p l e R s m args below meth c T' (locs ++ Lc) (cells + rm.cells) (slots + rm.slots) → Q (none) T'.heap Lc → own_E p e below P T' (mkF m pc' L S)) : own_E p e below P T (mkF m pc L S') := by
  subst hp hS ha
  obtain ⟨v, _, ⟨T', L1, k1, n1⟩, -, X', ⟨Lc, hQ, l1, y1, z1⟩, st⟩ := X.specialBack C.1 (y := y) hy1 C.2.2.2.1 (mvT C.2.2.1 w1) (mvT C.2.2.1 w2) (mvT C.2.2.1 w4) hy (backOf (W := W) hM C.2.2.1 w4 w3 hf hlo) (g := mkF m pc L (argsL.reverse ++ .ref b :: S)) rfl (hsz.trans C.2.2.2.2.symm) (Steps.refl _) (a := b) (argsL := argsL) (rest := S) hlen rfl (by show 2 * 0 + _ ≤ _; omega) (hb C.2.1 hd) (fun _ _ => ⟨rfl, eT, hc, hs⟩)
  dsimp only [Pt.U, Pt.locs, Pt.cells, Pt.slots] at X' l1 y1 z1 st hQ
  subst l1 y1 z1
  cases hr _ _ _ hQ
  obtain ⟨t, o, h1, h2⟩ := K T' Lc X' hQ
  exact ⟨t, o, st.trans h1, h2⟩
theorem own_callV (C : own_C p s m c bytes own Z ml) (X : Stand p l e R s m args below meth c T locs cells slots) {y : MethodName} {i mL : Nat} {cb : ByteArray} {rt : Option FieldType} {rm : Room} {as' : Array Value} {Q : Option Value → Heap → List Loc → Prop} {b : Addr} {Cn : String} {r : Value} (W : Nat) (argsL : List Value) (w1 : (Cond.methodLink own i y).before a0 Z = true) (w2 : (Cond.declares y).before a0 Z = true) (w5 : (Cond.selects Cn y y).before a0 Z = true) (w6 : (Cond.instanceMethod y).before a0 Z = true) (w3 : (Cond.initialized y.cls).before a0 Z = true) (w4 : (Cond.code y cb mL rt).before a0 Z = true) (Ex : Exa Z h b Cn) (hy : y.cls ≠ "java/lang/invoke/MethodHandle" ∧ y.cls ≠ "java/lang/invoke/VarHandle") (eT : T.heap = h) (hM : MetFree l y (head1 [Cond.code y cb mL rt] rm) (fun a U => a = as' ∧ Z.Warmed39 U.vm ∧ U.heap = h) (fun _ _ _ _ _ => True) (fun _ U o U' => ∃ v L, o = .returned v ∧ Q v U'.heap L ∧ FrameEnd U o U' L rm.cells rm.slots)) (ha : (.ref b :: argsL).toArray = as') (hf : rm.frames + 1 ≤ R.frames) (hlo : W + (mL + 11) + rm.locals ≤ R.locals) (hsz : L.size = ml) (hlen : ∀ sig, parseMethodDescriptor y.desc = some sig → argsL.length = sig.parameters.length) {S' : List Value} (hS : S' = argsL.reverse ++ .ref b :: S) (hW : (S.map fun v => v.category).sum ≤ W) (hc : cells + rm.cells ≤ R.cells) (hs : slots + rm.slots ≤ R.slots) (hd : decode bytes pc = .ok (.invokevirtual i, 3)) (hp : pc + 3 = pc') (hr : ∀ v h L, Q v h L → v = some r) (K : ∀ T' Lc, Stand p l e R s m args below meth c T' (locs ++ Lc) (cells + rm.cells) (slots + rm.slots) → Q (some r) T'.heap Lc → own_E p e below P T' (mkF m pc' L (r :: S))) : own_E p e below P T (mkF m pc L S') := by
  subst hp hS ha
  obtain ⟨cq, kq, qa, qb, qc⟩ := isOf C.2.2.1 eT Ex
  obtain ⟨v, _, ⟨T', L1, k1, n1⟩, -, X', ⟨Lc, hQ, l1, y1, z1⟩, st⟩ := X.virtualBack C.1 (y := y) (z := y) C.2.2.2.1 (mvT C.2.2.1 w1) (mvT C.2.2.1 w2) (notFace_of_selects (args := #[]) (mvT C.2.2.1 w5)) (mvT C.2.2.1 w5) (mvT C.2.2.1 w6) hy (backOf (W := W) hM C.2.2.1 w4 w3 hf hlo) qa qc (g := mkF m pc L (argsL.reverse ++ .ref b :: S)) rfl (hsz.trans C.2.2.2.2.symm) (Steps.refl _) (argsL := argsL) (rest := S) hlen rfl (by show 2 * 0 + _ ≤ _; omega) (hb C.2.1 hd) (fun _ _ => ⟨rfl, eT, hc, hs⟩)
  dsimp only [Pt.U, Pt.locs, Pt.cells, Pt.slots] at X' l1 y1 z1 st hQ
  subst l1 y1 z1
  cases hr _ _ _ hQ
  obtain ⟨t, o, h1, h2⟩ := K T' Lc X' hQ
  exact ⟨t, o, st.trans h1, h2⟩
theorem own_retI (C : own_C p s m c bytes own Z ml) (X : Stand p l e R s m args below meth c T locs cells slots) {Q : Option Value → Heap → List Loc → Prop} {k n : Nat} {z : Int32} (hret : meth.sig.returnType = some .int) (hl : meth.locks = false) (hk : cells ≤ k) (hn : slots ≤ n) (hd : decode bytes pc = .ok (.ireturn, 1)) (hQ : Q (some (.int z)) T.heap locs) : own_E p e below (own_R s below Q k n) T (mkF m pc L (.int z :: S)) := by
  obtain ⟨fs, hr, hrun, hended, hW, hsame⟩ := X.leave (v := some (.int z)) (fun h => by rw [hret] at h; cases h) hl
  exact ⟨_, _, retOut X C.1 hret rfl (Or.inl ⟨rfl, Or.inl rfl, _, rfl⟩) (hb C.2.1 hd) hr, hrun, hended, _, _, rfl, hQ, ⟨_, rfl⟩, hW, hsame.mono hk hn⟩
theorem own_retJ (C : own_C p s m c bytes own Z ml) (X : Stand p l e R s m args below meth c T locs cells slots) {Q : Option Value → Heap → List Loc → Prop} {k n : Nat} {z : Int64} (hret : meth.sig.returnType = some .long) (hl : meth.locks = false) (hk : cells ≤ k) (hn : slots ≤ n) (hd : decode bytes pc = .ok (.lreturn, 1)) (hQ : Q (some (.long z)) T.heap locs) : own_E p e below (own_R s below Q k n) T (mkF m pc L (.long z :: S)) := by
  obtain ⟨fs, hr, hrun, hended, hW, hsame⟩ := X.leave (v := some (.long z)) (fun h => by rw [hret] at h; cases h) hl
  exact ⟨_, _, retOut X C.1 hret rfl (Or.inr (Or.inl ⟨rfl, rfl, _, rfl⟩)) (hb C.2.1 hd) hr, hrun, hended, _, _, rfl, hQ, ⟨_, rfl⟩, hW, hsame.mono hk hn⟩
theorem own_retN (C : own_C p s m c bytes own Z ml) (X : Stand p l e R s m args below meth c T locs cells slots) {Q : Option Value → Heap → List Loc → Prop} {k n : Nat} {z : Int32} {t : FieldType} (hret : meth.sig.returnType = some t) (ht : t = .boolean ∨ t = .byte ∨ t = .char ∨ t = .short) (hl : meth.locks = false) (hk : cells ≤ k) (hn : slots ≤ n) (hd : decode bytes pc = .ok (.ireturn, 1)) (hQ : Q (some (.int (nar t z))) T.heap locs) : own_E p e below (own_R s below Q k n) T (mkF m pc L (.int z :: S)) := by
  obtain ⟨fs, hr, hrun, hended, hW, hsame⟩ := X.leave (v := some (.int (nar t z))) (fun h => by rw [hret] at h; cases h) hl
  exact ⟨_, _, retN X C.1 hret ht (hb C.2.1 hd) hr, hrun, hended, _, _, rfl, hQ, ⟨_, rfl⟩, hW, hsame.mono hk hn⟩
theorem own_retV (C : own_C p s m c bytes own Z ml) (X : Stand p l e R s m args below meth c T locs cells slots) {Q : Option Value → Heap → List Loc → Prop} {k n : Nat} (hret : meth.sig.returnType = none) (hl : meth.locks = false) (hk : cells ≤ k) (hn : slots ≤ n) (hd : decode bytes pc = .ok (.return_, 1)) (hQ : Q none T.heap locs) : own_E p e below (own_R s below Q k n) T (mkF m pc L []) := by
  obtain ⟨fs, hr, hrun, hended, hW, hsame⟩ := X.leave (v := none) (fun _ => rfl) hl
  exact ⟨_, _, X.returnOut C.1 hret (hb C.2.1 hd) hr, hrun, hended, _, _, rfl, hQ, ⟨_, rfl⟩, hW, hsame.mono hk hn⟩
theorem own_iinc (C : own_C p s m c bytes own Z ml) (X : Stand p l e R s m args below meth c T locs cells slots) {k : Nat} {ct : Int} {v : Int32} (hd : decode bytes pc = .ok (.iinc k ct, 3)) (hl : L[k]? = some (.val (.int v))) (hl' : storeLocals L k (.int (v + Int32.ofInt ct)) = some L') (hp : pc + 3 = pc') (K : own_E p e below P T (mkF m pc' L' S)) : own_E p e below P T (mkF m pc L S) := by
  subst hp
  exact own_go (fun t k => XS.iinc X.here C.1 rfl (hb C.2.1 hd) hl hl' k) K
theorem own_ldcwI (C : own_C p s m c bytes own Z ml) (X : Stand p l e R s m args below meth c T locs cells slots) {i : Nat} {v : Int32} (w : (Cond.constant own i v).before a0 Z = true) (hd : decode bytes pc = .ok (.ldc_w i, 3)) (hp : pc + 3 = pc') (K : own_E p e below P T (mkF m pc' L (.int v :: S))) : own_E p e below P T (mkF m pc L S) := by
  subst hp
  exact own_go (fun t k => X.ldcwInt C.1 C.2.2.2.1 (mvT C.2.2.1 w) (g := mkF m pc L S) rfl (hb C.2.1 hd) t k) K
theorem own_retA (C : own_C p s m c bytes own Z ml) (X : Stand p l e R s m args below meth c T locs cells slots) {Q : Option Value → Heap → List Loc → Prop} {k n : Nat} {z : Addr} {ty : FieldType} (hret : meth.sig.returnType = some (.array ty)) (hl : meth.locks = false) (hk : cells ≤ k) (hn : slots ≤ n) (hd : decode bytes pc = .ok (.areturn, 1)) (hQ : Q (some (.ref z)) T.heap locs) : own_E p e below (own_R s below Q k n) T (mkF m pc L (.ref z :: S)) := by
  obtain ⟨fs, hr, hrun, hended, hW, hsame⟩ := X.leave (v := some (.ref z)) (fun h => by rw [hret] at h; cases h) hl
  exact ⟨_, _, retOut X C.1 hret rfl (Or.inr (Or.inr (Or.inr (Or.inr ⟨rfl, rfl, rfl⟩)))) (hb C.2.1 hd) hr, hrun, hended, _, _, rfl, hQ, ⟨_, rfl⟩, hW, hsame.mono hk hn⟩
theorem own_arrK {a : Addr} {cl : Cell} {ty : FieldType} {h' : Heap} {ws : List Addr} (A : Arr Z h a cl ty) (K : Keep h h' ws) (q : a ∉ ws) : Arr Z h' a cl ty := ⟨K.2.1 a cl A.1 q, A.2⟩
theorem own_ne {a b : Addr} (hl : a < h.size) (g : b = h.size) : a ≠ b := fun q => by rw [q, g] at hl; exact Nat.lt_irrefl _ hl
theorem own_idx {j : Int32} {cl : Cell} {n : Nat} (S : cl.slots.size = n) (h0 : 0 ≤ j.toInt) (h1 : j.toInt < n) : ¬ (j < 0 ∨ cl.slots.size ≤ j.toNatClampNeg) := by
  have z : (0 : Int32).toInt = 0 := rfl
  rw [S, Int32.lt_iff_toInt_lt, z]
  simp only [Int32.toNatClampNeg]
  omega
theorem own_set {cl : Cell} {i j : Nat} {v : Value} (hi : i < cl.slots.size) : (cl.setSlot i v).slots[j]? = if i = j then some v else cl.slots[j]? := by
  simp only [Cell.setSlot, Array.getElem?_setIfInBounds]
  split <;> simp [hi]
theorem own_setS {cl : Cell} {i n : Nat} {v : Value} (S : cl.slots.size = n) : (cl.setSlot i v).slots.size = n := by
  simp [Cell.setSlot, S]
end Own

theorem own_or32 {x y : Int32} (k : Nat) (hx0 : 0 ≤ x.toInt) (hx : x.toInt < 2 ^ k) (q : Nat) (hy : y.toInt = 2 ^ k * q) : (x ||| y).toInt = x.toInt + y.toInt := by
  have hxn : x.toInt = (x.toBitVec.toNat : Int) := by
    have h1 : x.toInt = x.toBitVec.toInt := rfl
    rw [h1] at hx0 ⊢
    rw [BitVec.toInt_eq_toNat_cond] at hx0 ⊢
    have := x.toBitVec.isLt
    split at hx0 <;> split <;> omega
  have hyp : (0 : Int) ≤ 2 ^ k * q := Int.mul_nonneg (Int.pow_nonneg (by decide)) (Int.natCast_nonneg _)
  have hyn : y.toInt = (y.toBitVec.toNat : Int) := by
    have h1 : y.toInt = y.toBitVec.toInt := rfl
    rw [← hy] at hyp
    rw [h1] at hyp ⊢
    rw [BitVec.toInt_eq_toNat_cond] at hyp ⊢
    have := y.toBitVec.isLt
    split at hyp <;> split <;> omega
  have a31 : x.toBitVec.toNat < 2 ^ 31 := by have := x.toInt_lt; omega
  have b31 : y.toBitVec.toNat < 2 ^ 31 := by have := y.toInt_lt; omega
  have hb : y.toBitVec.toNat = 2 ^ k * q := by
    have : ((y.toBitVec.toNat : Nat) : Int) = ((2 ^ k * q : Nat) : Int) := by rw [← hyn, hy]; push_cast; rfl
    exact Int.ofNat_inj.mp this
  have ha : x.toBitVec.toNat < 2 ^ k := by
    have : ((x.toBitVec.toNat : Nat) : Int) < ((2 ^ k : Nat) : Int) := by rw [← hxn]; push_cast; exact hx
    exact Int.ofNat_lt.mp this
  have ho : (x ||| y).toBitVec.toNat = x.toBitVec.toNat + y.toBitVec.toNat := by
    show (x.toBitVec ||| y.toBitVec).toNat = _
    rw [BitVec.toNat_or, hb, Nat.or_comm, ← Nat.two_pow_add_eq_or_of_lt ha q]
    omega
  have hlt : (x ||| y).toBitVec.toNat < 2 ^ 31 := by
    show (x.toBitVec ||| y.toBitVec).toNat < _
    rw [BitVec.toNat_or]
    exact Nat.or_lt_two_pow a31 b31
  have : (x ||| y).toInt = ((x ||| y).toBitVec.toNat : Int) := by
    show (x ||| y).toBitVec.toInt = _
    rw [BitVec.toInt_eq_toNat_cond, if_pos (by omega)]
  rw [this, ho, hxn, hyn]
  push_cast
  rfl
theorem own_or64 {x y : Int64} (k : Nat) (hx0 : 0 ≤ x.toInt) (hx : x.toInt < 2 ^ k) (q : Nat) (hy : y.toInt = 2 ^ k * q) : (x ||| y).toInt = x.toInt + y.toInt := by
  have hxn : x.toInt = (x.toBitVec.toNat : Int) := by
    have h1 : x.toInt = x.toBitVec.toInt := rfl
    rw [h1] at hx0 ⊢
    rw [BitVec.toInt_eq_toNat_cond] at hx0 ⊢
    have := x.toBitVec.isLt
    split at hx0 <;> split <;> omega
  have hyp : (0 : Int) ≤ 2 ^ k * q := Int.mul_nonneg (Int.pow_nonneg (by decide)) (Int.natCast_nonneg _)
  have hyn : y.toInt = (y.toBitVec.toNat : Int) := by
    have h1 : y.toInt = y.toBitVec.toInt := rfl
    rw [← hy] at hyp
    rw [h1] at hyp ⊢
    rw [BitVec.toInt_eq_toNat_cond] at hyp ⊢
    have := y.toBitVec.isLt
    split at hyp <;> split <;> omega
  have a31 : x.toBitVec.toNat < 2 ^ 63 := by have := x.toInt_lt; omega
  have b31 : y.toBitVec.toNat < 2 ^ 63 := by have := y.toInt_lt; omega
  have hb : y.toBitVec.toNat = 2 ^ k * q := by
    have : ((y.toBitVec.toNat : Nat) : Int) = ((2 ^ k * q : Nat) : Int) := by rw [← hyn, hy]; push_cast; rfl
    exact Int.ofNat_inj.mp this
  have ha : x.toBitVec.toNat < 2 ^ k := by
    have : ((x.toBitVec.toNat : Nat) : Int) < ((2 ^ k : Nat) : Int) := by rw [← hxn]; push_cast; exact hx
    exact Int.ofNat_lt.mp this
  have ho : (x ||| y).toBitVec.toNat = x.toBitVec.toNat + y.toBitVec.toNat := by
    show (x.toBitVec ||| y.toBitVec).toNat = _
    rw [BitVec.toNat_or, hb, Nat.or_comm, ← Nat.two_pow_add_eq_or_of_lt ha q]
    omega
  have hlt : (x ||| y).toBitVec.toNat < 2 ^ 63 := by
    show (x.toBitVec ||| y.toBitVec).toNat < _
    rw [BitVec.toNat_or]
    exact Nat.or_lt_two_pow a31 b31
  have : (x ||| y).toInt = ((x ||| y).toBitVec.toNat : Int) := by
    show (x ||| y).toBitVec.toInt = _
    rw [BitVec.toInt_eq_toNat_cond, if_pos (by omega)]
  rw [this, ho, hxn, hyn]
  push_cast
  rfl
def own_sh (z : Int64) (k : Int32) : Int64 := (z.toUInt64 >>> (k &&& 0x3f).toInt64.toUInt64).toInt64
def own_b (z : Int64) : Int32 := nar .byte z.toInt32.toInt8.toInt32
def own_u32 (b0 b1 b2 b3 : Int32) : Int64 := (((b0 &&& 255) ||| ((b1 &&& 255) <<< ((8 : Int32) &&& 31))) ||| ((b2 &&& 255) <<< ((16 : Int32) &&& 31))).toInt64 ||| ((b3 &&& 255).toInt64 <<< ((24 : Int32) &&& 0x3f).toInt64)
theorem own_bm (z : Int64) : (own_b z &&& 255).toInt = z.toInt % 256 := by
  rw [Jvm.Kit.i32_mask (own_b z) 255 (k := 8) (by decide) (by decide)]
  show (z.toInt32.toInt8.toInt32.toInt8.toInt32).toInt % 2 ^ 8 = _
  rw [Int8.toInt_toInt32, Int32.toInt_toInt8, Int8.toInt_toInt32, Int32.toInt_toInt8, Int64.toInt_toInt32]
  have h1 := Int.bmod_emod (x := z.toInt) (m := 2 ^ 32)
  have h2 := Int.bmod_emod (x := z.toInt.bmod (2 ^ 32)) (m := 2 ^ 8)
  have h3 := Int.bmod_emod (x := (z.toInt.bmod (2 ^ 32)).bmod (2 ^ 8)) (m := 2 ^ 8)
  omega
theorem own_law (x : Int64) : own_u32 (own_b (x &&& 4294967295)) (own_b (own_sh (x &&& 4294967295) 8)) (own_b (own_sh (x &&& 4294967295) 16)) (own_b (own_sh (x &&& 4294967295) 24)) = x &&& 4294967295 := by
  have hv : (x &&& 4294967295).toInt = x.toInt % 2 ^ 32 := Jvm.Kit.i64_mask x 4294967295 (k := 32) (by decide) (by decide)
  generalize (x &&& 4294967295) = v at hv
  have h0 : 0 ≤ v.toInt ∧ v.toInt < 4294967296 := by omega
  have hp : (0 : Int64) ≤ v := Jvm.Kit.i64_nonneg.mpr h0.1
  have s1 : (own_sh v 8).toInt = v.toInt / 2 ^ 8 := Jvm.Kit.i64_lushr hp (by decide) (by decide)
  have s2 : (own_sh v 16).toInt = v.toInt / 2 ^ 16 := Jvm.Kit.i64_lushr hp (by decide) (by decide)
  have s3 : (own_sh v 24).toInt = v.toInt / 2 ^ 24 := Jvm.Kit.i64_lushr hp (by decide) (by decide)
  have c0 := own_bm v
  have c1 := own_bm (own_sh v 8)
  have c2 := own_bm (own_sh v 16)
  have c3 := own_bm (own_sh v 24)
  unfold own_u32
  generalize (own_b v &&& 255) = x0 at *
  generalize (own_b (own_sh v 8) &&& 255) = x1 at *
  generalize (own_b (own_sh v 16) &&& 255) = x2 at *
  generalize (own_b (own_sh v 24) &&& 255) = x3 at *
  have e1 : (x1 <<< ((8 : Int32) &&& 31)).toInt = x1.toInt * 2 ^ 8 := Jvm.Kit.i32_shl x1 _ (k := 8) (by decide) (by omega) (by omega)
  have e2 : (x2 <<< ((16 : Int32) &&& 31)).toInt = x2.toInt * 2 ^ 16 := Jvm.Kit.i32_shl x2 _ (k := 16) (by decide) (by omega) (by omega)
  have e3 : (x3.toInt64 <<< ((24 : Int32) &&& 0x3f).toInt64).toInt = x3.toInt64.toInt * 2 ^ 24 := Jvm.Kit.i64_shl x3.toInt64 _ (k := 24) (by decide) (by rw [Jvm.Kit.i64_of_i32]; omega) (by rw [Jvm.Kit.i64_of_i32]; omega)
  rw [Jvm.Kit.i64_of_i32] at e3
  have o1 : (x0 ||| (x1 <<< ((8 : Int32) &&& 31))).toInt = x0.toInt + (x1 <<< ((8 : Int32) &&& 31)).toInt := own_or32 8 (by omega) (by omega) x1.toInt.toNat (by omega)
  have o2 : ((x0 ||| (x1 <<< ((8 : Int32) &&& 31))) ||| (x2 <<< ((16 : Int32) &&& 31))).toInt = (x0 ||| (x1 <<< ((8 : Int32) &&& 31))).toInt + (x2 <<< ((16 : Int32) &&& 31)).toInt := own_or32 16 (by omega) (by omega) x2.toInt.toNat (by omega)
  apply Int64.toInt_inj.mp
  have k1 : ((x0 ||| (x1 <<< ((8 : Int32) &&& 31))) ||| (x2 <<< ((16 : Int32) &&& 31))).toInt64.toInt = ((x0 ||| (x1 <<< ((8 : Int32) &&& 31))) ||| (x2 <<< ((16 : Int32) &&& 31))).toInt := Jvm.Kit.i64_of_i32 _
  rw [own_or64 24 (by omega) (by omega) x3.toInt.toNat (by omega)]
  omega
theorem own_at (x : Int32) : 0 ≤ ((x &&& 2147483647) % 5).toInt ∧ ((x &&& 2147483647) % 5).toInt ≤ 4 := by
  have h : (x &&& 2147483647).toInt = x.toInt % 2 ^ 31 := Jvm.Kit.i32_mask x 2147483647 (k := 31) (by decide) (by decide)
  have h1 : 0 ≤ (x &&& 2147483647).toInt := by omega
  rw [Jvm.Kit.i32_rem_nonneg h1]
  have h5 : (5 : Int32).toInt = 5 := rfl
  rw [h5]
  omega
theorem d1_0 : decode prog_54_method_4_code 0 = .ok (.aload_n 0, 1) := by decide +kernel
theorem d1_1 : decode prog_54_method_4_code 1 = .ok (.iload_n 1, 1) := by decide +kernel
theorem d1_2 : decode prog_54_method_4_code 2 = .ok (.baload, 1) := by decide +kernel
theorem d1_3 : decode prog_54_method_4_code 3 = .ok (.sipush 255, 3) := by decide +kernel
theorem d1_6 : decode prog_54_method_4_code 6 = .ok (.iand, 1) := by decide +kernel
theorem d1_7 : decode prog_54_method_4_code 7 = .ok (.aload_n 0, 1) := by decide +kernel
theorem d1_8 : decode prog_54_method_4_code 8 = .ok (.iload_n 1, 1) := by decide +kernel
theorem d1_9 : decode prog_54_method_4_code 9 = .ok (.iconst 1, 1) := by decide +kernel
theorem d1_10 : decode prog_54_method_4_code 10 = .ok (.iadd, 1) := by decide +kernel
theorem d1_11 : decode prog_54_method_4_code 11 = .ok (.baload, 1) := by decide +kernel
theorem d1_12 : decode prog_54_method_4_code 12 = .ok (.sipush 255, 3) := by decide +kernel
theorem d1_15 : decode prog_54_method_4_code 15 = .ok (.iand, 1) := by decide +kernel
theorem d1_16 : decode prog_54_method_4_code 16 = .ok (.bipush 8, 2) := by decide +kernel
theorem d1_18 : decode prog_54_method_4_code 18 = .ok (.ishl, 1) := by decide +kernel
theorem d1_19 : decode prog_54_method_4_code 19 = .ok (.ior, 1) := by decide +kernel
theorem d1_20 : decode prog_54_method_4_code 20 = .ok (.aload_n 0, 1) := by decide +kernel
theorem d1_21 : decode prog_54_method_4_code 21 = .ok (.iload_n 1, 1) := by decide +kernel
theorem d1_22 : decode prog_54_method_4_code 22 = .ok (.iconst 2, 1) := by decide +kernel
theorem d1_23 : decode prog_54_method_4_code 23 = .ok (.iadd, 1) := by decide +kernel
theorem d1_24 : decode prog_54_method_4_code 24 = .ok (.baload, 1) := by decide +kernel
theorem d1_25 : decode prog_54_method_4_code 25 = .ok (.sipush 255, 3) := by decide +kernel
theorem d1_28 : decode prog_54_method_4_code 28 = .ok (.iand, 1) := by decide +kernel
theorem d1_29 : decode prog_54_method_4_code 29 = .ok (.bipush 16, 2) := by decide +kernel
theorem d1_31 : decode prog_54_method_4_code 31 = .ok (.ishl, 1) := by decide +kernel
theorem d1_32 : decode prog_54_method_4_code 32 = .ok (.ior, 1) := by decide +kernel
theorem d1_33 : decode prog_54_method_4_code 33 = .ok (.i2l, 1) := by decide +kernel
theorem d1_34 : decode prog_54_method_4_code 34 = .ok (.aload_n 0, 1) := by decide +kernel
theorem d1_35 : decode prog_54_method_4_code 35 = .ok (.iload_n 1, 1) := by decide +kernel
theorem d1_36 : decode prog_54_method_4_code 36 = .ok (.iconst 3, 1) := by decide +kernel
theorem d1_37 : decode prog_54_method_4_code 37 = .ok (.iadd, 1) := by decide +kernel
theorem d1_38 : decode prog_54_method_4_code 38 = .ok (.baload, 1) := by decide +kernel
theorem d1_39 : decode prog_54_method_4_code 39 = .ok (.sipush 255, 3) := by decide +kernel
theorem d1_42 : decode prog_54_method_4_code 42 = .ok (.iand, 1) := by decide +kernel
theorem d1_43 : decode prog_54_method_4_code 43 = .ok (.i2l, 1) := by decide +kernel
theorem d1_44 : decode prog_54_method_4_code 44 = .ok (.bipush 24, 2) := by decide +kernel
theorem d1_46 : decode prog_54_method_4_code 46 = .ok (.lshl, 1) := by decide +kernel
theorem d1_47 : decode prog_54_method_4_code 47 = .ok (.lor, 1) := by decide +kernel
theorem d1_48 : decode prog_54_method_4_code 48 = .ok (.lreturn, 1) := by decide +kernel
theorem pn_1 : plainName "com/example/schemawake/schemawake/binlog/LittleEndian" = true := by first | (simp [plainName, overriddenIn]; done) | decide +kernel
def Q1 (Z : State) (a1 : Addr) (j : Int32) (cl : Cell) (b0 : Int32) (b1 : Int32) (b2 : Int32) (b3 : Int32) (h0 : Heap) (n0 : Nat) (v : Option Value) (h : Heap) (L : List Loc) : Prop := v = some (.long (own_u32 b0 b1 b2 b3)) ∧ Fr n0 L ∧ h = h0
theorem ef_1 (m : MethodId) (a1 : Addr) (j : Int32) : entryFrame m #[(.ref a1), (.int j)] 2 = mkF m 0 #[.val (.ref a1), .val (.int j)] [] := by first | (simp [entryFrame, mkF, argsToLocals, Value.category]; done) | rfl
set_option maxRecDepth 65536 in
set_option maxHeartbeats 40000000 in
theorem rm1 (l : Launch) (Z : State) (a0 : Array Value) (hw : ∀ d ∈ tables_1, d.before a0 Z = true) (ws : List Jvm.Cond) (a1 : Addr) (j : Int32) (cl : Cell) (b0 : Int32) (b1 : Int32) (b2 : Int32) (b3 : Int32) (h0 : Heap) (n0 : Nat) (Z0 : n0 ≤ h0.size) (A : Arr Z h0 a1 cl .byte) (j0 : ¬ (j < 0 ∨ cl.slots.size ≤ (j).toNatClampNeg)) (v0 : cl.slots[(j).toNatClampNeg]? = some (.int b0)) (j1 : ¬ ((j + 1) < 0 ∨ cl.slots.size ≤ ((j + 1)).toNatClampNeg)) (v1 : cl.slots[((j + 1)).toNatClampNeg]? = some (.int b1)) (j2 : ¬ ((j + 2) < 0 ∨ cl.slots.size ≤ ((j + 2)).toNatClampNeg)) (v2 : cl.slots[((j + 2)).toNatClampNeg]? = some (.int b2)) (j3 : ¬ ((j + 3) < 0 ∨ cl.slots.size ≤ ((j + 3)).toNatClampNeg)) (v3 : cl.slots[((j + 3)).toNatClampNeg]? = some (.int b3)) :
    MetFree l (⟨"com/example/schemawake/schemawake/binlog/LittleEndian", "u32", "([BI)J"⟩ : MethodName) (head1 (Jvm.Cond.code (⟨"com/example/schemawake/schemawake/binlog/LittleEndian", "u32", "([BI)J"⟩ : MethodName) prog_54_method_4_code 2 (some .long) :: ws) ({ frames := 0, cells := 0, slots := 0, locals := 0 } : Room)) (fun a U => a = #[(.ref a1), (.int j)] ∧ Z.Warmed39 U.vm ∧ U.heap = h0) (fun _ _ _ _ _ => True) (fun _ U o U' => ∃ v L, o = .returned v ∧ Q1 Z a1 j cl b0 b1 b2 b3 h0 n0 v U'.heap L ∧ FrameEnd U o U' L ({ frames := 0, cells := 0, slots := 0, locals := 0 } : Room).cells ({ frames := 0, cells := 0, slots := 0, locals := 0 } : Room).slots) := by
  refine MetFree.of_bodySF (plainFor_of_name pn_1) hisR ?_
  intro p e s m args below meth c s₁ Bd hml0 hP hK
  obtain ⟨rfl, hZ, hh⟩ := hP
  have hnm := (name_of_methodNamed Bd.named Bd.method).1
  have C : own_C p s m c prog_54_method_4_code "com/example/schemawake/schemawake/binlog/LittleEndian" Z 2 := ⟨Bd.exec, Bd.bytes, hZ, findClass_of_methodNamed Bd.named, hml0⟩
  have X0 : Stand p l e ({ frames := 0, cells := 0, slots := 0, locals := 0 } : Room) s m #[(.ref a1), (.int j)] below meth c s₁ [] 0 0 := Stand.of_body Bd
  have e0 : s₁.heap = h0 := by rw [← hh, Bd.state]; rfl
  have N0 := Fr.nil n0
  show own_E p e below (own_R s below (Q1 Z a1 j cl b0 b1 b2 b3 h0 n0) ({ frames := 0, cells := 0, slots := 0, locals := 0 } : Room).cells ({ frames := 0, cells := 0, slots := 0, locals := 0 } : Room).slots) s₁ (entryFrame m #[(.ref a1), (.int j)] 2)
  rw [ef_1]
  refine own_aloadN C X0 d1_0 rfl rfl rfl ?_
  refine own_iloadN C X0 d1_1 rfl rfl ?_
  refine own_baload C X0 e0 A j0 v0 d1_2 rfl ?_
  refine own_sipush C X0 (255) d1_3 rfl rfl ?_
  refine own_iand C X0 d1_6 rfl ?_
  refine own_aloadN C X0 d1_7 rfl rfl rfl ?_
  refine own_iloadN C X0 d1_8 rfl rfl ?_
  refine own_iconst C X0 (1) d1_9 rfl rfl ?_
  refine own_iadd C X0 d1_10 rfl ?_
  refine own_baload C X0 e0 A j1 v1 d1_11 rfl ?_
  refine own_sipush C X0 (255) d1_12 rfl rfl ?_
  refine own_iand C X0 d1_15 rfl ?_
  refine own_bipush C X0 (8) d1_16 rfl rfl ?_
  refine own_ishl C X0 d1_18 rfl ?_
  refine own_ior C X0 d1_19 rfl ?_
  refine own_aloadN C X0 d1_20 rfl rfl rfl ?_
  refine own_iloadN C X0 d1_21 rfl rfl ?_
  refine own_iconst C X0 (2) d1_22 rfl rfl ?_
  refine own_iadd C X0 d1_23 rfl ?_
  refine own_baload C X0 e0 A j2 v2 d1_24 rfl ?_
  refine own_sipush C X0 (255) d1_25 rfl rfl ?_
  refine own_iand C X0 d1_28 rfl ?_
  refine own_bipush C X0 (16) d1_29 rfl rfl ?_
  refine own_ishl C X0 d1_31 rfl ?_
  refine own_ior C X0 d1_32 rfl ?_
  refine own_i2l C X0 d1_33 rfl ?_
  refine own_aloadN C X0 d1_34 rfl rfl rfl ?_
  refine own_iloadN C X0 d1_35 rfl rfl ?_
  refine own_iconst C X0 (3) d1_36 rfl rfl ?_
  refine own_iadd C X0 d1_37 rfl ?_
  refine own_baload C X0 e0 A j3 v3 d1_38 rfl ?_
  refine own_sipush C X0 (255) d1_39 rfl rfl ?_
  refine own_iand C X0 d1_42 rfl ?_
  refine own_i2l C X0 d1_43 rfl ?_
  refine own_bipush C X0 (24) d1_44 rfl rfl ?_
  refine own_lshl C X0 d1_46 rfl ?_
  refine own_lor C X0 d1_47 rfl ?_
  exact own_retJ C X0 Bd.returns Bd.notSynchronized (by decide) (by decide) d1_48 ⟨rfl, N0, e0⟩
theorem pd_0 : parseMethodDescriptor "([BI)J" = some ⟨[.array .byte, .int], some .long⟩ := by decide +kernel
theorem pn_0 : plainName "com/example/schemawake/schemawake/binlog/LittleEndianU32PinLaw" = true := by first | (simp [plainName, overriddenIn]; done) | decide +kernel
def Q0 (Z : State) (q0 : Int64) (q1 : Int64) (i2 : Int32) (h0 : Heap) (n0 : Nat) (v : Option Value) (h : Heap) (L : List Loc) : Prop := v = some (.int 1) ∧ Fr n0 L
theorem ef_0 (m : MethodId) (q0 : Int64) (q1 : Int64) (i2 : Int32) : entryFrame m #[(.long q0), (.long q1), (.int i2)] maxLocals = mkF m 0 #[.val (.long q0), .second, .val (.long q1), .second, .val (.int i2), .unset, .unset, .unset, .unset] [] := by first | (simp [entryFrame, mkF, argsToLocals, Value.category, maxLocals]; done) | rfl
set_option maxRecDepth 65536 in
set_option maxHeartbeats 40000000 in
theorem rm0 (l : Launch) (Z : State) (a0 : Array Value) (hw : ∀ d ∈ tables_1, d.before a0 Z = true) (ws : List Jvm.Cond) (q0 : Int64) (q1 : Int64) (i2 : Int32) (h0 : Heap) (n0 : Nat) (Z0 : n0 ≤ h0.size)  :
    MetFree l x (head1 (Jvm.Cond.code x code maxLocals ret :: ws) room_1) (fun a U => a = #[(.long q0), (.long q1), (.int i2)] ∧ Z.Warmed39 U.vm ∧ U.heap = h0) (fun _ _ _ _ _ => True) (fun _ U o U' => ∃ v L, o = .returned v ∧ Q0 Z q0 q1 i2 h0 n0 v U'.heap L ∧ FrameEnd U o U' L 16 128) := by
  refine MetFree.of_bodySF (plainFor_of_name pn_0) hisR ?_
  intro p e s m args below meth c s₁ Bd hml0 hP hK
  obtain ⟨rfl, hZ, hh⟩ := hP
  have hnm := (name_of_methodNamed Bd.named Bd.method).1
  have C : own_C p s m c code "com/example/schemawake/schemawake/binlog/LittleEndianU32PinLaw" Z 9 := ⟨Bd.exec, Bd.bytes, hZ, findClass_of_methodNamed Bd.named, hml0⟩
  have X0 : Stand p l e room_1 s m #[(.long q0), (.long q1), (.int i2)] below meth c s₁ [] 0 0 := Stand.of_body Bd
  have e0 : s₁.heap = h0 := by rw [← hh, Bd.state]; rfl
  have N0 := Fr.nil n0
  show own_E p e below (own_R s below (Q0 Z q0 q1 i2 h0 n0) 16 128) s₁ (entryFrame m #[(.long q0), (.long q1), (.int i2)] maxLocals)
  rw [ef_0]
  refine own_lloadN C X0 at_0 rfl rfl ?_
  refine own_ldcJ C X0 (hw _ (List.mem_of_getElem? (i := 0) rfl)) at_1 rfl ?_
  refine own_land C X0 at_4 rfl ?_
  refine own_lstore (L' := #[_, _, _, _, _, _, _, _, _]) C X0 at_5 rfl rfl ?_
  refine own_iload C X0 at_7 rfl rfl ?_
  refine own_ldcI C X0 (hw _ (List.mem_of_getElem? (i := 1) rfl)) at_9 rfl ?_
  refine own_iand C X0 at_11 rfl ?_
  refine own_iconst C X0 (5) at_12 rfl rfl ?_
  refine own_irem C X0 (by decide) at_13 rfl ?_
  refine own_istore (L' := #[_, _, _, _, _, _, _, _, _]) C X0 at_14 rfl rfl ?_
  have hat := own_at i2
  generalize (i2 &&& 2147483647) % 5 = at_ at hat
  refine own_bipush C X0 (8) at_16 rfl rfl ?_
  refine own_newP C X0 8 (hw _ (List.mem_of_getElem? (i := 2) rfl)) e0 (by decide) (by decide) (by decide) (by decide) (by decide) at_18 rfl fun T1_ h1_ a1_ k1_ X1_ e1_ g1_ E1_ A1_ => ?_
  have S0 : (newA k1_ (newarray.typeOf .byte) 8).slots.size = 8 := sz_new _ _ _
  generalize newA k1_ (newarray.typeOf .byte) 8 = c0 at *
  have ga : n0 ≤ a1_ := by rw [g1_]; exact Z0
  refine own_astore (L' := #[_, _, _, _, _, _, _, _, _]) C X1_ at_20 rfl rfl rfl ?_
  refine own_aload C X1_ at_22 rfl rfl rfl ?_
  refine own_iconst C X1_ (0) at_24 rfl rfl ?_
  refine own_lloadN C X1_ at_25 rfl rfl ?_
  refine own_l2i C X1_ at_26 rfl ?_
  refine own_i2b C X1_ at_27 rfl ?_
  refine own_bastore C X1_ e1_ A1_ (own_idx S0 (by decide) (by decide)) at_28 rfl fun T2_ h2_ X2_ e2_ W2_ A2_ => ?_
  have N1 := Fr.snoc X2_ N0 ga
  obtain ⟨c1, S1, A1⟩ : ∃ q : Cell, q.slots.size = 8 ∧ Arr Z h2_ a1_ q .byte := ⟨_, own_setS S0, A2_⟩
  refine own_aload C X2_ at_29 rfl rfl rfl ?_
  refine own_iconst C X2_ (1) at_31 rfl rfl ?_
  refine own_lloadN C X2_ at_32 rfl rfl ?_
  refine own_bipush C X2_ (8) at_33 rfl rfl ?_
  refine own_lushr C X2_ at_35 rfl ?_
  refine own_l2i C X2_ at_36 rfl ?_
  refine own_i2b C X2_ at_37 rfl ?_
  refine own_bastore C X2_ e2_ A1 (own_idx S1 (by decide) (by decide)) at_38 rfl fun T3_ h3_ X3_ e3_ W3_ A3_ => ?_
  have N2 := Fr.snoc X3_ N1 ga
  obtain ⟨c2, S2, A2⟩ : ∃ q : Cell, q.slots.size = 8 ∧ Arr Z h3_ a1_ q .byte := ⟨_, own_setS S1, A3_⟩
  refine own_aload C X3_ at_39 rfl rfl rfl ?_
  refine own_iconst C X3_ (2) at_41 rfl rfl ?_
  refine own_lloadN C X3_ at_42 rfl rfl ?_
  refine own_bipush C X3_ (16) at_43 rfl rfl ?_
  refine own_lushr C X3_ at_45 rfl ?_
  refine own_l2i C X3_ at_46 rfl ?_
  refine own_i2b C X3_ at_47 rfl ?_
  refine own_bastore C X3_ e3_ A2 (own_idx S2 (by decide) (by decide)) at_48 rfl fun T4_ h4_ X4_ e4_ W4_ A4_ => ?_
  have N3 := Fr.snoc X4_ N2 ga
  obtain ⟨c3, S3, A3⟩ : ∃ q : Cell, q.slots.size = 8 ∧ Arr Z h4_ a1_ q .byte := ⟨_, own_setS S2, A4_⟩
  refine own_aload C X4_ at_49 rfl rfl rfl ?_
  refine own_iconst C X4_ (3) at_51 rfl rfl ?_
  refine own_lloadN C X4_ at_52 rfl rfl ?_
  refine own_bipush C X4_ (24) at_53 rfl rfl ?_
  refine own_lushr C X4_ at_55 rfl ?_
  refine own_l2i C X4_ at_56 rfl ?_
  refine own_i2b C X4_ at_57 rfl ?_
  refine own_bastore C X4_ e4_ A3 (own_idx S3 (by decide) (by decide)) at_58 rfl fun T5_ h5_ X5_ e5_ W5_ A5_ => ?_
  have N4 := Fr.snoc X5_ N3 ga
  obtain ⟨c4, S4, A4⟩ : ∃ q : Cell, q.slots.size = 8 ∧ Arr Z h5_ a1_ q .byte := ⟨_, own_setS S3, A5_⟩
  refine own_aload C X5_ at_59 rfl rfl rfl ?_
  refine own_iconst C X5_ (4) at_61 rfl rfl ?_
  refine own_lloadN C X5_ at_62 rfl rfl ?_
  refine own_bipush C X5_ (32) at_63 rfl rfl ?_
  refine own_lushr C X5_ at_65 rfl ?_
  refine own_l2i C X5_ at_66 rfl ?_
  refine own_i2b C X5_ at_67 rfl ?_
  refine own_bastore C X5_ e5_ A4 (own_idx S4 (by decide) (by decide)) at_68 rfl fun T6_ h6_ X6_ e6_ W6_ A6_ => ?_
  have N5 := Fr.snoc X6_ N4 ga
  obtain ⟨c5, S5, A5⟩ : ∃ q : Cell, q.slots.size = 8 ∧ Arr Z h6_ a1_ q .byte := ⟨_, own_setS S4, A6_⟩
  refine own_aload C X6_ at_69 rfl rfl rfl ?_
  refine own_iconst C X6_ (5) at_71 rfl rfl ?_
  refine own_lloadN C X6_ at_72 rfl rfl ?_
  refine own_bipush C X6_ (40) at_73 rfl rfl ?_
  refine own_lushr C X6_ at_75 rfl ?_
  refine own_l2i C X6_ at_76 rfl ?_
  refine own_i2b C X6_ at_77 rfl ?_
  refine own_bastore C X6_ e6_ A5 (own_idx S5 (by decide) (by decide)) at_78 rfl fun T7_ h7_ X7_ e7_ W7_ A7_ => ?_
  have N6 := Fr.snoc X7_ N5 ga
  obtain ⟨c6, S6, A6⟩ : ∃ q : Cell, q.slots.size = 8 ∧ Arr Z h7_ a1_ q .byte := ⟨_, own_setS S5, A7_⟩
  refine own_aload C X7_ at_79 rfl rfl rfl ?_
  refine own_bipush C X7_ (6) at_81 rfl rfl ?_
  refine own_lloadN C X7_ at_83 rfl rfl ?_
  refine own_bipush C X7_ (48) at_84 rfl rfl ?_
  refine own_lushr C X7_ at_86 rfl ?_
  refine own_l2i C X7_ at_87 rfl ?_
  refine own_i2b C X7_ at_88 rfl ?_
  refine own_bastore C X7_ e7_ A6 (own_idx S6 (by decide) (by decide)) at_89 rfl fun T8_ h8_ X8_ e8_ W8_ A8_ => ?_
  have N7 := Fr.snoc X8_ N6 ga
  obtain ⟨c7, S7, A7⟩ : ∃ q : Cell, q.slots.size = 8 ∧ Arr Z h8_ a1_ q .byte := ⟨_, own_setS S6, A8_⟩
  refine own_aload C X8_ at_90 rfl rfl rfl ?_
  refine own_bipush C X8_ (7) at_92 rfl rfl ?_
  refine own_lloadN C X8_ at_94 rfl rfl ?_
  refine own_bipush C X8_ (56) at_95 rfl rfl ?_
  refine own_lushr C X8_ at_97 rfl ?_
  refine own_l2i C X8_ at_98 rfl ?_
  refine own_i2b C X8_ at_99 rfl ?_
  refine own_bastore C X8_ e8_ A7 (own_idx S7 (by decide) (by decide)) at_100 rfl fun T9_ h9_ X9_ e9_ W9_ A9_ => ?_
  have N8 := Fr.snoc X9_ N7 ga
  obtain ⟨c8, S8, A8⟩ : ∃ q : Cell, q.slots.size = 8 ∧ Arr Z h9_ a1_ q .byte := ⟨_, own_setS S7, A9_⟩
  have t1 : (at_ + 1).toInt = at_.toInt + 1 := Jvm.Kit.i32_add (by show _ ≤ at_.toInt + 1; omega) (by show at_.toInt + 1 < _; omega)
  have t2 : (at_ + 2).toInt = at_.toInt + 2 := Jvm.Kit.i32_add (by show _ ≤ at_.toInt + 2; omega) (by show at_.toInt + 2 < _; omega)
  have t3 : (at_ + 3).toInt = at_.toInt + 3 := Jvm.Kit.i32_add (by show _ ≤ at_.toInt + 3; omega) (by show at_.toInt + 3 < _; omega)
  refine own_aload C X9_ at_101 rfl rfl rfl ?_
  refine own_iload C X9_ at_103 rfl rfl ?_
  refine own_lload C X9_ at_105 rfl rfl ?_
  refine own_l2i C X9_ at_107 rfl ?_
  refine own_i2b C X9_ at_108 rfl ?_
  refine own_bastore C X9_ e9_ A8 (own_idx S8 (by omega) (by omega)) at_109 rfl fun T10_ h10_ X10_ e10_ W10_ A10_ => ?_
  have N9 := Fr.snoc X10_ N8 ga
  obtain ⟨c9, hc9, A9⟩ : ∃ q : Cell, q = c8.setSlot at_.toNatClampNeg _ ∧ Arr Z h10_ a1_ q .byte := ⟨_, rfl, A10_⟩
  have S9 : c9.slots.size = 8 := by rw [hc9]; exact own_setS S8
  refine own_aload C X10_ at_110 rfl rfl rfl ?_
  refine own_iload C X10_ at_112 rfl rfl ?_
  refine own_iconst C X10_ (1) at_114 rfl rfl ?_
  refine own_iadd C X10_ at_115 rfl ?_
  refine own_lload C X10_ at_116 rfl rfl ?_
  refine own_bipush C X10_ (8) at_118 rfl rfl ?_
  refine own_lushr C X10_ at_120 rfl ?_
  refine own_l2i C X10_ at_121 rfl ?_
  refine own_i2b C X10_ at_122 rfl ?_
  refine own_bastore C X10_ e10_ A9 (own_idx S9 (by omega) (by omega)) at_123 rfl fun T11_ h11_ X11_ e11_ W11_ A11_ => ?_
  have N10 := Fr.snoc X11_ N9 ga
  obtain ⟨c10, hc10, A10⟩ : ∃ q : Cell, q = c9.setSlot (at_ + 1).toNatClampNeg _ ∧ Arr Z h11_ a1_ q .byte := ⟨_, rfl, A11_⟩
  have S10 : c10.slots.size = 8 := by rw [hc10]; exact own_setS S9
  refine own_aload C X11_ at_124 rfl rfl rfl ?_
  refine own_iload C X11_ at_126 rfl rfl ?_
  refine own_iconst C X11_ (2) at_128 rfl rfl ?_
  refine own_iadd C X11_ at_129 rfl ?_
  refine own_lload C X11_ at_130 rfl rfl ?_
  refine own_bipush C X11_ (16) at_132 rfl rfl ?_
  refine own_lushr C X11_ at_134 rfl ?_
  refine own_l2i C X11_ at_135 rfl ?_
  refine own_i2b C X11_ at_136 rfl ?_
  refine own_bastore C X11_ e11_ A10 (own_idx S10 (by omega) (by omega)) at_137 rfl fun T12_ h12_ X12_ e12_ W12_ A12_ => ?_
  have N11 := Fr.snoc X12_ N10 ga
  obtain ⟨c11, hc11, A11⟩ : ∃ q : Cell, q = c10.setSlot (at_ + 2).toNatClampNeg _ ∧ Arr Z h12_ a1_ q .byte := ⟨_, rfl, A12_⟩
  have S11 : c11.slots.size = 8 := by rw [hc11]; exact own_setS S10
  refine own_aload C X12_ at_138 rfl rfl rfl ?_
  refine own_iload C X12_ at_140 rfl rfl ?_
  refine own_iconst C X12_ (3) at_142 rfl rfl ?_
  refine own_iadd C X12_ at_143 rfl ?_
  refine own_lload C X12_ at_144 rfl rfl ?_
  refine own_bipush C X12_ (24) at_146 rfl rfl ?_
  refine own_lushr C X12_ at_148 rfl ?_
  refine own_l2i C X12_ at_149 rfl ?_
  refine own_i2b C X12_ at_150 rfl ?_
  refine own_bastore C X12_ e12_ A11 (own_idx S11 (by omega) (by omega)) at_151 rfl fun T13_ h13_ X13_ e13_ W13_ A13_ => ?_
  have N12 := Fr.snoc X13_ N11 ga
  obtain ⟨c12, hc12, A12⟩ : ∃ q : Cell, q = c11.setSlot (at_ + 3).toNatClampNeg _ ∧ Arr Z h13_ a1_ q .byte := ⟨_, rfl, A13_⟩
  have S12 : c12.slots.size = 8 := by rw [hc12]; exact own_setS S11
  have r1 : (at_ + 1).toNatClampNeg = at_.toNatClampNeg + 1 := by simp only [Int32.toNatClampNeg]; omega
  have r2 : (at_ + 2).toNatClampNeg = at_.toNatClampNeg + 2 := by simp only [Int32.toNatClampNeg]; omega
  have r3 : (at_ + 3).toNatClampNeg = at_.toNatClampNeg + 3 := by simp only [Int32.toNatClampNeg]; omega
  have r8 : at_.toNatClampNeg ≤ 4 := by simp only [Int32.toNatClampNeg]; omega
  rw [r1] at hc10
  rw [r2] at hc11
  rw [r3] at hc12
  have u0 : c12.slots[at_.toNatClampNeg]? = some (.int (own_b (q0 &&& 4294967295))) := by
    rw [hc12, own_set (by omega), if_neg (by omega), hc11, own_set (by omega), if_neg (by omega), hc10, own_set (by omega), if_neg (by omega), hc9, own_set (by omega), if_pos (by omega)]
    rfl
  have u1 : c12.slots[(at_ + 1).toNatClampNeg]? = some (.int (own_b (own_sh (q0 &&& 4294967295) 8))) := by
    rw [r1]
    rw [hc12, own_set (by omega), if_neg (by omega), hc11, own_set (by omega), if_neg (by omega), hc10, own_set (by omega), if_pos (by omega)]
    rfl
  have u2 : c12.slots[(at_ + 2).toNatClampNeg]? = some (.int (own_b (own_sh (q0 &&& 4294967295) 16))) := by
    rw [r2]
    rw [hc12, own_set (by omega), if_neg (by omega), hc11, own_set (by omega), if_pos (by omega)]
    rfl
  have u3 : c12.slots[(at_ + 3).toNatClampNeg]? = some (.int (own_b (own_sh (q0 &&& 4294967295) 24))) := by
    rw [r3]
    rw [hc12, own_set (by omega), if_pos (by omega)]
    rfl
  refine own_aload C X13_ at_152 rfl rfl rfl ?_
  refine own_iload C X13_ at_154 rfl rfl ?_
  have Z9 : n0 ≤ h13_.size := Nat.le_trans (Nat.le_trans (Nat.le_trans (Nat.le_trans (Nat.le_trans (Nat.le_trans (Nat.le_trans (Nat.le_trans (Nat.le_trans (Nat.le_trans (Nat.le_trans (Nat.le_trans (Nat.le_trans Z0 E1_.1) (Nat.le_of_eq W2_.size.symm)) (Nat.le_of_eq W3_.size.symm)) (Nat.le_of_eq W4_.size.symm)) (Nat.le_of_eq W5_.size.symm)) (Nat.le_of_eq W6_.size.symm)) (Nat.le_of_eq W7_.size.symm)) (Nat.le_of_eq W8_.size.symm)) (Nat.le_of_eq W9_.size.symm)) (Nat.le_of_eq W10_.size.symm)) (Nat.le_of_eq W11_.size.symm)) (Nat.le_of_eq W12_.size.symm)) (Nat.le_of_eq W13_.size.symm)
  refine own_callS C X13_ 0 [.ref a1_, .int at_] (hw _ (List.mem_of_getElem? (i := 3) rfl)) (hw _ (List.mem_of_getElem? (i := 4) rfl)) (hw _ (List.mem_of_getElem? (i := 5) rfl)) (hw _ (List.mem_of_getElem? (i := 6) rfl)) (by decide) e13_ (rm1 l Z a0 hw [] a1_ at_ c12 _ _ _ _ h13_ n0 Z9 A12 (own_idx S12 (by omega) (by omega)) u0 (own_idx S12 (by omega) (by omega)) u1 (own_idx S12 (by omega) (by omega)) u2 (own_idx S12 (by omega) (by omega)) u3) rfl (by decide) (by decide) rfl (lenOf pd_0 rfl) rfl (Nat.le_of_eq rfl) (by decide) (by decide) at_156 rfl (fun _ _ _ q => q.1) fun T14_ L14_ X14_ Q14_ => ?_
  obtain ⟨-, N20, H20⟩ := Q14_
  refine own_lload C X14_ at_159 rfl rfl ?_
  refine own_lcmp C X14_ at_161 rfl ?_
  refine own_ifN C X14_ at_162 ((if0 _ _).trans (teq ((lw_eq _ _).mpr (own_law q0))).2) rfl ?_
  refine own_iconst C X14_ (1) at_165 rfl rfl ?_
  refine own_goto (pc' := 170) C X14_ at_166 (by decide) (by decide) ?_
  exact own_retN C X14_ Bd.returns (by simp) Bd.notSynchronized (by decide) (by decide) at_170 ⟨rfl, Fr.app N12 N20⟩
set_option maxRecDepth 65536 in
set_option maxHeartbeats 40000000 in
theorem comes_1 {Post : Tables → Env → Array Value → State → Outcome → State → Prop} (hpost : ∀ tb e args s v u, (limb_1_1.after args s (.returned v) u = true ∧ limb_1_2.after args s (.returned v) u = true ∧ True) → FrameEnd s (.returned v) u (Jvm.fieldLocs frame_1_writes args s ++ Jvm.arrayLocs frame_1_arrays args s ++ Jvm.staticLocs frame_1_statics s) 16 128 → Post tb e args s (.returned v) u) :
    ArmFor flags0 classFile x code maxLocals ret World_1 tables_1 room_1 Calls_1 rest_1 Pre_1 Post := by
  intro l hfl _ _ p e ha hc hk s m args below hf hA hF happ hP
  obtain ⟨hcalls, hrest, hpre⟩ := hP
  obtain ⟨-, -, -, hnamed, -, -, -, hat⟩ := (Spec.applies_iff hf).mp happ
  obtain ⟨hg, hn⟩ := and_e (Cond.before_iff.mp (show (Jvm.Cond.and given_1 narrow_1).before args s = true from hpre))
  obtain ⟨gc, r0⟩ := and_e hg
  obtain ⟨g0, r1⟩ := and_e r0
  obtain ⟨g1, r2⟩ := and_e r1
  have g2 := r2
  obtain ⟨w0, w1, w2, rfl⟩ : ∃ w0 w1 w2 : Value, args = #[w0, w1, w2] := by
    have hs : args.size = 3 := by simpa [Cond.value, given_1] using gc
    obtain ⟨L⟩ := args
    match L, hs with
    | [w0, w1, w2], _ => exact ⟨w0, w1, w2, rfl⟩
  have hw := fun d (hd : d ∈ tables_1) => atoms_spec (ws := Jvm.Cond.code x code maxLocals ret :: tables_1) hat d (List.mem_cons_of_mem _ hd)
  obtain ⟨i0, ei0⟩ := isL_v g0
  obtain rfl : w0 = (.long i0) := Option.some.inj ei0
  obtain ⟨i1, ei1⟩ := isL_v g1
  obtain rfl : w1 = (.long i1) := Option.some.inj ei1
  obtain ⟨i2, ei2⟩ := is_v g2
  obtain rfl : w2 = (.int i2) := Option.some.inj ei2
  obtain ⟨n, o, h1, h2, h3, _, L, rfl, ⟨rfl, N⟩, hq⟩ := rm0 l s _ hw tables_1 i0 i1 i2 s.heap s.heap.size (Nat.le_refl _) p e ha hc hk s m _ below hf ((Spec.applies_iff_loose hf).mp happ).1 ⟨rfl, State.Warmed39.refl s, rfl⟩ trivial
  refine ⟨n, _, h1, h2, h3, hpost _ _ _ _ _ _ ⟨Cond.after_iff.mpr rfl, Cond.after_iff.mpr (eq_i res_at (Term.int_eval (1)) rfl), trivial⟩ ⟨hq.1, hq.2.1, (hq.2.2.sift fun y hy => Or.inr (N y hy)).mono (by decide) (by decide)⟩⟩
theorem main_1_1 : Claimed_1_1 := comes_1 fun _ _ _ _ _ _ h hF => ⟨h.1, hF⟩
theorem main_1_2 : Claimed_1_2 := comes_1 fun _ _ _ _ _ _ h hF => ⟨h.2.1, hF⟩
end Jvm.Pilot.@@N@@
namespace Jvm.Pilot.@@N@@
open Jvm Jvm.ClassFile Sem Op Lib Jvm.Free Jvm.Stand Jvm.Pilot.@@N@@.Jvm.D
/-! MADE BY PROGRAM (witnessworld.py) out of the Statement's table words and the real class files: 9 classes; the members and pool entries that the words name. The judged class is class 1, her method 1. -/
namespace start1
open Jvm.ClassFile
def u (s : String) : CpInfo := .utf8 (stringToUtf16 s)
/-- a pool by its gaps: so many unusable entries, then the entry; so many at the end -/
def gap : Nat → List CpInfo → List CpInfo
  | 0, r => r
  | n + 1, r => .unusable :: gap n r
def poolList (es : List (Nat × CpInfo)) (last : Nat) : List CpInfo := es.foldr (fun e r => gap e.1 (e.2 :: r)) (gap last [])
def pool (es : List (Nat × CpInfo)) (last : Nat) : Array CpInfo := ⟨poolList es last⟩
def fileOf (pool : Array CpInfo) (this : Nat) (attrs : Array Attribute := #[]) (ms : Array MethodInfo := #[]) (fl : Nat := 33) (sup : Nat := 0) (ifs : Array Nat := #[]) (fds : Array FieldInfo := #[]) : ClassFile where
  minorVersion := 0
  majorVersion := 65
  constantPool := pool
  accessFlags := fl
  thisClass := this
  superClass := sup
  interfaces := ifs
  fields := fds
  methods := ms
  attributes := attrs
def plain (name : String) (sup : Option ClassId) : Class where
  name := name
  kind := .ordinary
  loader := none
  accessFlags := 33
  super := sup
  interfaces := #[]
  cf := none
  fields := #[]
  methods := #[]
  instanceTypes := #[]
  staticTypes := #[]
  resolved := #[]
  callSites := []
  init := .initialized
  statics := none
  mirror := none

def pool0 : Array CpInfo := pool [(5, u "<init>"), (0, u "()V"), (1, .class_ 10), (1, u "java/lang/Object")] 113

def k0m0 : Method := { name := "<init>", desc := "()V", sig := { parameters := [], returnType := none }, accessFlags := 1, code := none }
/-- java/lang/Object -/
def k0 : Class := { plain "java/lang/Object" none with
  accessFlags := 33
  interfaces := #[]
  cf := some (fileOf pool0 8 #[] #[{ accessFlags := 1, nameIndex := 5, descriptorIndex := 6, attributes := #[] }] 33 0 #[] #[])
  fields := #[]
  methods := #[k0m0]
  instanceTypes := #[]
  staticTypes := #[]
  resolved := Array.replicate 124 none
  statics := none }

def pool1 : Array CpInfo := pool [(2, .class_ 4), (1, u "java/lang/Object"), (0, u "<init>"), (0, u "()V"), (0, .long 4294967295), (1, .integer 2147483647), (0, .methodref 11 12), (0, .class_ 13), (0, .nameAndType 14 15), (0, u "com/example/schemawake/schemawake/binlog/LittleEndian"), (0, u "u32"), (0, u "([BI)J"), (0, .class_ 17), (0, u "com/example/schemawake/schemawake/binlog/LittleEndianU32PinLaw"), (2, u "law"), (0, u "(JJI)Z")] 5

def k1m0 : Method := { name := "<init>", desc := "()V", sig := { parameters := [], returnType := none }, accessFlags := 2, code := none }
def k1c1 : Code := { maxStack := 5, maxLocals := 9, code := code, exceptionTable := #[], attributes := #[] }
def k1m1 : Method := { name := "law", desc := "(JJI)Z", sig := { parameters := [.long, .long, .int], returnType := some .boolean }, accessFlags := 9, code := some k1c1 }
/-- com/example/schemawake/schemawake/binlog/LittleEndianU32PinLaw -/
def k1 : Class := { plain "com/example/schemawake/schemawake/binlog/LittleEndianU32PinLaw" (some 0) with
  accessFlags := 49
  interfaces := #[]
  cf := some (fileOf pool1 16 #[] #[{ accessFlags := 2, nameIndex := 5, descriptorIndex := 6, attributes := #[] }, { accessFlags := 9, nameIndex := 20, descriptorIndex := 21, attributes := #[] }] 49 2 #[] #[])
  fields := #[]
  methods := #[k1m0, k1m1]
  instanceTypes := #[]
  staticTypes := #[]
  resolved := Array.replicate 27 none
  statics := none }

def pool2 : Array CpInfo := pool [(2, .class_ 4), (1, u "java/lang/Object"), (0, u "<init>"), (0, u "()V"), (1, .class_ 10), (1, u "com/example/schemawake/schemawake/binlog/LittleEndian"), (0, u "u32"), (0, u "([BI)J")] 11

def k2m0 : Method := { name := "<init>", desc := "()V", sig := { parameters := [], returnType := none }, accessFlags := 2, code := none }
def k2c1 : Code := { maxStack := 5, maxLocals := 2, code := prog_54_method_4_code, exceptionTable := #[], attributes := #[] }
def k2m1 : Method := { name := "u32", desc := "([BI)J", sig := { parameters := [(.array .byte), .int], returnType := some .long }, accessFlags := 8, code := some k2c1 }
/-- com/example/schemawake/schemawake/binlog/LittleEndian -/
def k2 : Class := { plain "com/example/schemawake/schemawake/binlog/LittleEndian" (some 0) with
  accessFlags := 48
  interfaces := #[]
  cf := some (fileOf pool2 8 #[] #[{ accessFlags := 2, nameIndex := 5, descriptorIndex := 6, attributes := #[] }, { accessFlags := 8, nameIndex := 11, descriptorIndex := 12, attributes := #[] }] 48 2 #[] #[])
  fields := #[]
  methods := #[k2m0, k2m1]
  instanceTypes := #[]
  staticTypes := #[]
  resolved := Array.replicate 24 none
  statics := none }

def pool3 : Array CpInfo := pool [(1, u "java/lang/Cloneable"), (0, .class_ 1), (0, u "java/lang/Object"), (0, .class_ 3)] 3

/-- java/lang/Cloneable -/
def k3 : Class := { plain "java/lang/Cloneable" (some 0) with
  accessFlags := 1537
  interfaces := #[]
  cf := some (fileOf pool3 2 #[] #[] 1537 4 #[] #[])
  fields := #[]
  methods := #[]
  instanceTypes := #[]
  staticTypes := #[]
  resolved := Array.replicate 8 none
  statics := none }

def pool4 : Array CpInfo := pool [(1, u "java/io/Serializable"), (0, .class_ 1), (0, u "java/lang/Object"), (0, .class_ 3)] 3

/-- java/io/Serializable -/
def k4 : Class := { plain "java/io/Serializable" (some 0) with
  accessFlags := 1537
  interfaces := #[]
  cf := some (fileOf pool4 2 #[] #[] 1537 4 #[] #[])
  fields := #[]
  methods := #[]
  instanceTypes := #[]
  staticTypes := #[]
  resolved := Array.replicate 8 none
  statics := none }

/-- the primitive byte -/
def k5 : Class := { plain "byte" none with kind := .primitive 'B', accessFlags := 0x411 }
/-- [B -/
def k6 : Class := { plain "[B" (some 0) with kind := .array 5 .byte, interfaces := #[3, 4], accessFlags := 1041 }

/-- the primitive int -/
def k7 : Class := { plain "int" none with kind := .primitive 'I', accessFlags := 0x411 }
/-- [I -/
def k8 : Class := { plain "[I" (some 0) with kind := .array 7 .int, interfaces := #[3, 4], accessFlags := 1041 }

def heap : Heap := #[]
def classes : Array Class := #[k0, k1, k2, k3, k4, k5, k6, k7, k8]
def interned : List (Array UInt16 × Addr) := []
def slotsUsed : Nat := 0
def theMethod : MethodId := ⟨1, 1⟩
def args0 : Array Value := #[.long 5, .long 77, .int 3]
def aboutOver (below : List Frame) : State where
  vm := { classes := classes, interned := interned.toArray }
  heap := heap
  slotsUsed := slotsUsed
  threads := #[{ frames := .invoking theMethod args0 :: below }]
def below0 : List Frame := [.native { method := ⟨0, 0⟩, args := #[] }]
def about1 : State := aboutOver below0
def p0 : Program := .bare "" "" ""
def e0 : Env := launch0.env 0 0 0
theorem w_frames : about1.frames = Frame.invoking theMethod args0 :: below0 := rfl
set_option maxRecDepth 65536 in
theorem w_args : argsFit about1.vm theMethod args0 = true := by decide +kernel
set_option maxRecDepth 65536 in
theorem w_heap : heapFits about1 = true := by decide +kernel
set_option maxRecDepth 65536 in
theorem w_runnable : about1.curStatus? = some .runnable := by decide +kernel
set_option maxRecDepth 65536 in
theorem w_alone : about1.alone = true := by decide +kernel
set_option maxRecDepth 65536 in
theorem w_named : about1.methodNamed? x = some theMethod := by decide +kernel
set_option maxRecDepth 65536 in
theorem w_hears : about1.hears theMethod below0 = true := by decide +kernel
set_option maxRecDepth 65536 in
theorem w_ripe : about1.ripe theMethod args0 below0 = true := by decide +kernel
theorem w_running : about1.status = .running := rfl
set_option maxRecDepth 65536 in
theorem w_room : about1.hasRoom e0.platform room_1 = true :=
  launch0.hasRoom_least _ room_1 (by decide +kernel) (by decide +kernel) (by decide +kernel) (by decide +kernel) (by decide +kernel) (by decide +kernel)
theorem allAtoms_all (ts : List Jvm.Cond) (a : Array Jvm.Value) (st : Jvm.State) : (allAtoms ts).before a st = ts.all (fun c => c.before a st) := by
  induction ts with
  | nil => rfl
  | cons c t ih =>
    show (Jvm.Cond.and c (allAtoms t)).before a st = _
    rw [Jvm.Cond.before_and, ih, List.all_cons]
def words1 : List Jvm.Cond := Jvm.Cond.code x code maxLocals ret :: tables_1
/-- a 'code' word, met by the world's own term for the bytes: nothing is compared byte by byte -/
theorem code_word {y : MethodName} {bytes : ByteArray} {mx : Nat} {rt : Option FieldType} {a : Array Value} {s : State} {m : MethodId} {meth : Method} {c : Code} (h1 : s.methodNamed? y = some m) (h2 : s.vm.method? m = some meth) (h3 : meth.code = some c) (h4 : c.code = bytes)
    (h5 : (c.maxLocals == mx && c.exceptionTable.isEmpty && decide (c.maxStack ≤ mostOperands) && decide (meth.sig.returnType = rt) && !meth.locks && decide (parseMethodDescriptor y.desc = some meth.sig)) = true) : (Jvm.Cond.code y bytes mx rt).before a s = true := by
  simp only [Bool.and_eq_true, beq_iff_eq, Bool.not_eq_true', decide_eq_true_eq] at h5
  obtain ⟨⟨⟨⟨⟨g1, g2⟩, g3⟩, g4⟩, g5⟩, g6⟩ := h5
  simp [Cond.before, Cond.holds, Cond.value, h1, h2, h3, h4, g1, g2, g3, g4, g5, g6]
def isCode : Jvm.Cond → Bool
  | .code _ _ _ _ => true
  | _ => false
theorem all_split {L : List Jvm.Cond} {P : Jvm.Cond → Bool} (h1 : L.all (fun c => isCode c || P c) = true) (h2 : ∀ c ∈ L.filter isCode, P c = true) : L.all P = true := by
  refine List.all_eq_true.mpr fun c hc => ?_
  have h := List.all_eq_true.mp h1 c hc
  rcases Bool.eq_false_or_eq_true (isCode c) with hi | hi
  · exact h2 c (List.mem_filter.mpr ⟨hc, hi⟩)
  · simpa [hi] using h
set_option maxRecDepth 65536 in
theorem w_c0 : (Jvm.Cond.code x code maxLocals ret).before args0 about1 = true := code_word (m := ⟨1, 1⟩) (meth := k1m1) (c := k1c1) (by decide +kernel) rfl rfl rfl (by decide +kernel)
set_option maxRecDepth 65536 in
theorem w_c1 : (Jvm.Cond.code ({ cls := "com/example/schemawake/schemawake/binlog/LittleEndian", name := "u32", desc := "([BI)J" } : Jvm.MethodName) prog_54_method_4_code (2 : Nat) (Option.some Jvm.ClassFile.FieldType.long)).before args0 about1 = true := code_word (m := ⟨2, 1⟩) (meth := k2m1) (c := k2c1) (by decide +kernel) rfl rfl rfl (by decide +kernel)
def codes1 : List Jvm.Cond := [Jvm.Cond.code x code maxLocals ret, Jvm.Cond.code ({ cls := "com/example/schemawake/schemawake/binlog/LittleEndian", name := "u32", desc := "([BI)J" } : Jvm.MethodName) prog_54_method_4_code (2 : Nat) (Option.some Jvm.ClassFile.FieldType.long)]
set_option maxRecDepth 65536 in
theorem codes_eq : words1.filter isCode = codes1 := rfl
theorem w_codes : ∀ c ∈ words1.filter isCode, c.before args0 about1 = true := by
  rw [codes_eq]
  intro c hc
  simp only [codes1, List.mem_cons, List.not_mem_nil, or_false] at hc
  rcases hc with rfl | rfl
  · exact w_c0
  · exact w_c1
set_option maxRecDepth 65536 in
theorem w_t1 : words1.all (fun c => isCode c || c.before args0 about1) = true := by decide +kernel
theorem w_tables : (allAtoms (Jvm.Cond.code x code maxLocals ret :: tables_1)).before args0 about1 = true := by
  rw [allAtoms_all]
  show words1.all (fun c => c.before args0 about1) = true
  refine all_split ?_ w_codes
  rw [w_t1]
set_option maxRecDepth 65536 in
theorem w_case : (Jvm.Cond.and given_1 narrow_1).before args0 about1 = true := by decide +kernel
theorem w_applies : (headSpec (Jvm.Cond.code x code maxLocals ret :: tables_1) room_1).applies x e0.platform about1 = true :=
  (Spec.applies_iff w_frames).mpr ⟨w_running, w_runnable, w_alone, w_named, w_hears, w_ripe, w_room, w_tables⟩
theorem atStart : AtStart classFile x code maxLocals ret World_1 tables_1 room_1 Calls_1 rest_1 Pre_1 launch0 p0 e0 about1 theMethod args0 below0 :=
  ⟨lists_1, trivial, launch0.admits_env _ _ _, launch0.least_env, fairChoices_fair.cas, fairChoices_fair.clock, w_frames, w_args, w_heap, w_applies, trivial, trivial, w_case⟩
end start1
theorem witness_1 : WitnessClaimed_1 := ⟨start1.p0, start1.e0, start1.about1, start1.theMethod, start1.args0, start1.below0, start1.atStart⟩
end Jvm.Pilot.@@N@@
