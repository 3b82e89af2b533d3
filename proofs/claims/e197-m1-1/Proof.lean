import JvmDerived
import JvmDerived.Pilot.@@N@@Statement
import JvmDerived.Pilot.@@N@@Code
set_option linter.unusedVariables false
set_option linter.unusedSimpArgs false
@@BLOCK:NumsL.lean.txt@@
namespace Jvm.Pilot.@@N@@
open Jvm Jvm.ClassFile Sem Op Lib Jvm.Free Jvm.Stand Jvm.LawKit Jvm.RoadKit Bundle Jvm.Pilot.@@N@@.Jvm.D
def own_E (p : Program) (e : Env) (below : List Frame) (P : State → Outcome → Prop) (T : State) (g : JFrame) : Prop := ∃ t o, Steps p.tables e below (T.setTop g) t ∧ P t o
theorem own_go {p : Program} {e : Env} {below : List Frame} {P : State → Outcome → Prop} {T T' : State} {g g' : JFrame} (st : ∀ t, Steps p.tables e below (T'.setTop g') t → Steps p.tables e below (T.setTop g) t) (h : own_E p e below P T' g') : own_E p e below P T g := by
  obtain ⟨t, o, h1, h2⟩ := h
  exact ⟨t, o, st t h1, h2⟩
def own_C (p : Program) (s : State) (m : MethodId) (c : Code) (bytes : ByteArray) (own : String) (Z : State) (ml : Nat) : Prop := p.tables.exec = Jvm.exec ∧ c.code = bytes ∧ Z.Warmed39 s.vm ∧ s.vm.findClass own = some m.cls ∧ c.maxLocals = ml
def own_R (s : State) (below : List Frame) (Q : Option Value → Heap → List Loc → Prop) (k n : Nat) : State → Outcome → Prop := fun t o => t.status = .running ∧ Ended t below o ∧ ∃ v L, o = .returned v ∧ Q v t.heap L ∧ FrameEnd s o t L k n
section Own
variable {p : Program} {l : Launch} {e : Env} {R : Room} {s : State} {m : MethodId} {args : Array Value} {below : List Frame} {meth : Method} {c : Code} {T : State} {locs : List Loc} {cells slots : Nat} {bytes : ByteArray} {own : String} {Z : State} {ml : Nat} {P : State → Outcome → Prop} {pc pc' : Nat} {L L' : Array Slot} {S : List Value} {a0 : Array Value} {h : Heap}
theorem own_aloadN (C : own_C p s m c bytes own Z ml) (X : Stand p l e R s m args below meth c T locs cells slots) {k : Fin 4} {v : Value} (hd : decode bytes pc = .ok (.aload_n k, 1)) (hl : L[k.val]? = some (.val v)) (hv : v.isRef = true) (hp : pc + 1 = pc') (K : own_E p e below P T (mkF m pc' L (v :: S))) : own_E p e below P T (mkF m pc L S) := by
  subst hp
  exact own_go (fun t k => XS.aloadN X.here C.1 rfl (hb C.2.1 hd) hl hv k) K
theorem own_aload (C : own_C p s m c bytes own Z ml) (X : Stand p l e R s m args below meth c T locs cells slots) {k : Nat} {v : Value} (hd : decode bytes pc = .ok (.aload k, 2)) (hl : L[k]? = some (.val v)) (hv : v.isRef = true) (hp : pc + 2 = pc') (K : own_E p e below P T (mkF m pc' L (v :: S))) : own_E p e below P T (mkF m pc L S) := by
  subst hp
  exact own_go (fun t k => XS.aload X.here C.1 rfl (hb C.2.1 hd) hl hv k) K
theorem own_iloadN (C : own_C p s m c bytes own Z ml) (X : Stand p l e R s m args below meth c T locs cells slots) {k : Fin 4} {v : Int32} (hd : decode bytes pc = .ok (.iload_n k, 1)) (hl : L[k.val]? = some (.val (.int v))) (hp : pc + 1 = pc') (K : own_E p e below P T (mkF m pc' L (.int v :: S))) : own_E p e below P T (mkF m pc L S) := by
  subst hp
  exact own_go (fun t k => XS.iloadN X.here C.1 rfl (hb C.2.1 hd) hl k) K
theorem own_iload (C : own_C p s m c bytes own Z ml) (X : Stand p l e R s m args below meth c T locs cells slots) {k : Nat} {v : Int32} (hd : decode bytes pc = .ok (.iload k, 2)) (hl : L[k]? = some (.val (.int v))) (hp : pc + 2 = pc') (K : own_E p e below P T (mkF m pc' L (.int v :: S))) : own_E p e below P T (mkF m pc L S) := by
  subst hp
  exact own_go (fun t k => XS.iload X.here C.1 rfl (hb C.2.1 hd) hl k) K
theorem own_istoreN (C : own_C p s m c bytes own Z ml) (X : Stand p l e R s m args below meth c T locs cells slots) {k : Fin 4} {v : Int32} (hd : decode bytes pc = .ok (.istore_n k, 1)) (hl : storeLocals L k.val (.int v) = some L') (hp : pc + 1 = pc') (K : own_E p e below P T (mkF m pc' L' S)) : own_E p e below P T (mkF m pc L (.int v :: S)) := by
  subst hp
  exact own_go (fun t k => XS.istoreN X.here C.1 rfl (hb C.2.1 hd) rfl hl k) K
theorem own_istore (C : own_C p s m c bytes own Z ml) (X : Stand p l e R s m args below meth c T locs cells slots) {k : Nat} {v : Int32} (hd : decode bytes pc = .ok (.istore k, 2)) (hl : storeLocals L k (.int v) = some L') (hp : pc + 2 = pc') (K : own_E p e below P T (mkF m pc' L' S)) : own_E p e below P T (mkF m pc L (.int v :: S)) := by
  subst hp
  exact own_go (fun t k => XS.istore X.here C.1 rfl (hb C.2.1 hd) rfl hl k) K
theorem own_lloadN (C : own_C p s m c bytes own Z ml) (X : Stand p l e R s m args below meth c T locs cells slots) {k : Fin 4} {v : Int64} (hd : decode bytes pc = .ok (.lload_n k, 1)) (hl : L[k.val]? = some (.val (.long v))) (hp : pc + 1 = pc') (K : own_E p e below P T (mkF m pc' L (.long v :: S))) : own_E p e below P T (mkF m pc L S) := by
  subst hp
  exact own_go (fun t k => XS.lloadN X.here C.1 rfl (hb C.2.1 hd) hl k) K
theorem own_lload (C : own_C p s m c bytes own Z ml) (X : Stand p l e R s m args below meth c T locs cells slots) {k : Nat} {v : Int64} (hd : decode bytes pc = .ok (.lload k, 2)) (hl : L[k]? = some (.val (.long v))) (hp : pc + 2 = pc') (K : own_E p e below P T (mkF m pc' L (.long v :: S))) : own_E p e below P T (mkF m pc L S) := by
  subst hp
  exact own_go (fun t k => XS.lload X.here C.1 rfl (hb C.2.1 hd) hl k) K
theorem own_lstoreN (C : own_C p s m c bytes own Z ml) (X : Stand p l e R s m args below meth c T locs cells slots) {k : Fin 4} {v : Int64} (hd : decode bytes pc = .ok (.lstore_n k, 1)) (hl : storeLocals L k.val (.long v) = some L') (hp : pc + 1 = pc') (K : own_E p e below P T (mkF m pc' L' S)) : own_E p e below P T (mkF m pc L (.long v :: S)) := by
  subst hp
  exact own_go (fun t k => XS.lstoreN X.here C.1 rfl (hb C.2.1 hd) rfl hl k) K
theorem own_lstore (C : own_C p s m c bytes own Z ml) (X : Stand p l e R s m args below meth c T locs cells slots) {k : Nat} {v : Int64} (hd : decode bytes pc = .ok (.lstore k, 2)) (hl : storeLocals L k (.long v) = some L') (hp : pc + 2 = pc') (K : own_E p e below P T (mkF m pc' L' S)) : own_E p e below P T (mkF m pc L (.long v :: S)) := by
  subst hp
  exact own_go (fun t k => XS.lstore X.here C.1 rfl (hb C.2.1 hd) rfl hl k) K
theorem own_astoreN (C : own_C p s m c bytes own Z ml) (X : Stand p l e R s m args below meth c T locs cells slots) {k : Fin 4} {v : Value} (hd : decode bytes pc = .ok (.astore_n k, 1)) (hv : v.isRef = true) (hl : storeLocals L k.val v = some L') (hp : pc + 1 = pc') (K : own_E p e below P T (mkF m pc' L' S)) : own_E p e below P T (mkF m pc L (v :: S)) := by
  subst hp
  exact own_go (fun t k => XS.astoreN X.here C.1 rfl (hb C.2.1 hd) rfl hv hl k) K
theorem own_astore (C : own_C p s m c bytes own Z ml) (X : Stand p l e R s m args below meth c T locs cells slots) {k : Nat} {v : Value} (hd : decode bytes pc = .ok (.astore k, 2)) (hv : v.isRef = true) (hl : storeLocals L k v = some L') (hp : pc + 2 = pc') (K : own_E p e below P T (mkF m pc' L' S)) : own_E p e below P T (mkF m pc L (v :: S)) := by
  subst hp
  exact own_go (fun t k => XS.astore X.here C.1 rfl (hb C.2.1 hd) rfl hv hl k) K
theorem own_iconst (C : own_C p s m c bytes own Z ml) (X : Stand p l e R s m args below meth c T locs cells slots) {i : Int} (z : Int32) (hd : decode bytes pc = .ok (.iconst i, 1)) (hz : Int32.ofInt i = z) (hp : pc + 1 = pc') (K : own_E p e below P T (mkF m pc' L (.int z :: S))) : own_E p e below P T (mkF m pc L S) := by
  subst hp hz
  exact own_go (fun t k => XS.iconst X.here C.1 rfl (hb C.2.1 hd) k) K
theorem own_bipush (C : own_C p s m c bytes own Z ml) (X : Stand p l e R s m args below meth c T locs cells slots) {i : Int} (z : Int32) (hd : decode bytes pc = .ok (.bipush i, 2)) (hz : (Int8.ofInt i).toInt32 = z) (hp : pc + 2 = pc') (K : own_E p e below P T (mkF m pc' L (.int z :: S))) : own_E p e below P T (mkF m pc L S) := by
  subst hp hz
  exact own_go (fun t k => XS.bipush X.here C.1 rfl (hb C.2.1 hd) k) K
theorem own_sipush (C : own_C p s m c bytes own Z ml) (X : Stand p l e R s m args below meth c T locs cells slots) {i : Int} (z : Int32) (hd : decode bytes pc = .ok (.sipush i, 3)) (hz : (Int16.ofInt i).toInt32 = z) (hp : pc + 3 = pc') (K : own_E p e below P T (mkF m pc' L (.int z :: S))) : own_E p e below P T (mkF m pc L S) := by
  subst hp hz
  exact own_go (fun t k => XS.sipush X.here C.1 rfl (hb C.2.1 hd) k) K
theorem own_lconst (C : own_C p s m c bytes own Z ml) (X : Stand p l e R s m args below meth c T locs cells slots) {i : Fin 2} (z : Int64) (hd : decode bytes pc = .ok (.lconst i, 1)) (hz : Int64.ofNat i = z) (hp : pc + 1 = pc') (K : own_E p e below P T (mkF m pc' L (.long z :: S))) : own_E p e below P T (mkF m pc L S) := by
  subst hp hz
  exact own_go (fun t k => XS.lconst X.here C.1 rfl (hb C.2.1 hd) k) K
theorem own_aconstNull (C : own_C p s m c bytes own Z ml) (X : Stand p l e R s m args below meth c T locs cells slots)  (hd : decode bytes pc = .ok (.aconst_null, 1)) (hp : pc + 1 = pc') (K : own_E p e below P T (mkF m pc' L (.null :: S))) : own_E p e below P T (mkF m pc L S) := by
  subst hp
  exact own_go (fun t k => XS.aconstNull X.here C.1 rfl (hb C.2.1 hd) k) K
theorem own_iadd (C : own_C p s m c bytes own Z ml) (X : Stand p l e R s m args below meth c T locs cells slots) {x y : Int32} (hd : decode bytes pc = .ok (.iadd, 1)) (hp : pc + 1 = pc') (K : own_E p e below P T (mkF m pc' L (.int (x + y) :: S))) : own_E p e below P T (mkF m pc L (.int y :: .int x :: S)) := by
  subst hp
  exact own_go (fun t k => XS.iadd X.here C.1 rfl (hb C.2.1 hd) rfl k) K
theorem own_ladd (C : own_C p s m c bytes own Z ml) (X : Stand p l e R s m args below meth c T locs cells slots) {x y : Int64} (hd : decode bytes pc = .ok (.ladd, 1)) (hp : pc + 1 = pc') (K : own_E p e below P T (mkF m pc' L (.long (x + y) :: S))) : own_E p e below P T (mkF m pc L (.long y :: .long x :: S)) := by
  subst hp
  exact own_go (fun t k => XS.ladd X.here C.1 rfl (hb C.2.1 hd) rfl k) K
theorem own_isub (C : own_C p s m c bytes own Z ml) (X : Stand p l e R s m args below meth c T locs cells slots) {x y : Int32} (hd : decode bytes pc = .ok (.isub, 1)) (hp : pc + 1 = pc') (K : own_E p e below P T (mkF m pc' L (.int (x - y) :: S))) : own_E p e below P T (mkF m pc L (.int y :: .int x :: S)) := by
  subst hp
  exact own_go (fun t k => XS.isub X.here C.1 rfl (hb C.2.1 hd) rfl k) K
theorem own_lsub (C : own_C p s m c bytes own Z ml) (X : Stand p l e R s m args below meth c T locs cells slots) {x y : Int64} (hd : decode bytes pc = .ok (.lsub, 1)) (hp : pc + 1 = pc') (K : own_E p e below P T (mkF m pc' L (.long (x - y) :: S))) : own_E p e below P T (mkF m pc L (.long y :: .long x :: S)) := by
  subst hp
  exact own_go (fun t k => XS.lsub X.here C.1 rfl (hb C.2.1 hd) rfl k) K
theorem own_imul (C : own_C p s m c bytes own Z ml) (X : Stand p l e R s m args below meth c T locs cells slots) {x y : Int32} (hd : decode bytes pc = .ok (.imul, 1)) (hp : pc + 1 = pc') (K : own_E p e below P T (mkF m pc' L (.int (x * y) :: S))) : own_E p e below P T (mkF m pc L (.int y :: .int x :: S)) := by
  subst hp
  exact own_go (fun t k => XS.imul X.here C.1 rfl (hb C.2.1 hd) rfl k) K
theorem own_lmul (C : own_C p s m c bytes own Z ml) (X : Stand p l e R s m args below meth c T locs cells slots) {x y : Int64} (hd : decode bytes pc = .ok (.lmul, 1)) (hp : pc + 1 = pc') (K : own_E p e below P T (mkF m pc' L (.long (x * y) :: S))) : own_E p e below P T (mkF m pc L (.long y :: .long x :: S)) := by
  subst hp
  exact own_go (fun t k => XS.lmul X.here C.1 rfl (hb C.2.1 hd) rfl k) K
theorem own_iand (C : own_C p s m c bytes own Z ml) (X : Stand p l e R s m args below meth c T locs cells slots) {x y : Int32} (hd : decode bytes pc = .ok (.iand, 1)) (hp : pc + 1 = pc') (K : own_E p e below P T (mkF m pc' L (.int (x &&& y) :: S))) : own_E p e below P T (mkF m pc L (.int y :: .int x :: S)) := by
  subst hp
  exact own_go (fun t k => XS.iand X.here C.1 rfl (hb C.2.1 hd) rfl k) K
theorem own_land (C : own_C p s m c bytes own Z ml) (X : Stand p l e R s m args below meth c T locs cells slots) {x y : Int64} (hd : decode bytes pc = .ok (.land, 1)) (hp : pc + 1 = pc') (K : own_E p e below P T (mkF m pc' L (.long (x &&& y) :: S))) : own_E p e below P T (mkF m pc L (.long y :: .long x :: S)) := by
  subst hp
  exact own_go (fun t k => XS.land X.here C.1 rfl (hb C.2.1 hd) rfl k) K
theorem own_ior (C : own_C p s m c bytes own Z ml) (X : Stand p l e R s m args below meth c T locs cells slots) {x y : Int32} (hd : decode bytes pc = .ok (.ior, 1)) (hp : pc + 1 = pc') (K : own_E p e below P T (mkF m pc' L (.int (x ||| y) :: S))) : own_E p e below P T (mkF m pc L (.int y :: .int x :: S)) := by
  subst hp
  exact own_go (fun t k => XS.ior X.here C.1 rfl (hb C.2.1 hd) rfl k) K
theorem own_lor (C : own_C p s m c bytes own Z ml) (X : Stand p l e R s m args below meth c T locs cells slots) {x y : Int64} (hd : decode bytes pc = .ok (.lor, 1)) (hp : pc + 1 = pc') (K : own_E p e below P T (mkF m pc' L (.long (x ||| y) :: S))) : own_E p e below P T (mkF m pc L (.long y :: .long x :: S)) := by
  subst hp
  exact own_go (fun t k => XS.lor X.here C.1 rfl (hb C.2.1 hd) rfl k) K
theorem own_ixor (C : own_C p s m c bytes own Z ml) (X : Stand p l e R s m args below meth c T locs cells slots) {x y : Int32} (hd : decode bytes pc = .ok (.ixor, 1)) (hp : pc + 1 = pc') (K : own_E p e below P T (mkF m pc' L (.int (x ^^^ y) :: S))) : own_E p e below P T (mkF m pc L (.int y :: .int x :: S)) := by
  subst hp
  exact own_go (fun t k => XS.ixor X.here C.1 rfl (hb C.2.1 hd) rfl k) K
theorem own_lxor (C : own_C p s m c bytes own Z ml) (X : Stand p l e R s m args below meth c T locs cells slots) {x y : Int64} (hd : decode bytes pc = .ok (.lxor, 1)) (hp : pc + 1 = pc') (K : own_E p e below P T (mkF m pc' L (.long (x ^^^ y) :: S))) : own_E p e below P T (mkF m pc L (.long y :: .long x :: S)) := by
  subst hp
  exact own_go (fun t k => XS.lxor X.here C.1 rfl (hb C.2.1 hd) rfl k) K
theorem own_ishl (C : own_C p s m c bytes own Z ml) (X : Stand p l e R s m args below meth c T locs cells slots) {x y : Int32} (hd : decode bytes pc = .ok (.ishl, 1)) (hp : pc + 1 = pc') (K : own_E p e below P T (mkF m pc' L (.int (x <<< (y &&& 31)) :: S))) : own_E p e below P T (mkF m pc L (.int y :: .int x :: S)) := by
  subst hp
  exact own_go (fun t k => XS.ishl X.here C.1 rfl (hb C.2.1 hd) rfl k) K
theorem own_ishr (C : own_C p s m c bytes own Z ml) (X : Stand p l e R s m args below meth c T locs cells slots) {x y : Int32} (hd : decode bytes pc = .ok (.ishr, 1)) (hp : pc + 1 = pc') (K : own_E p e below P T (mkF m pc' L (.int (x >>> (y &&& 31)) :: S))) : own_E p e below P T (mkF m pc L (.int y :: .int x :: S)) := by
  subst hp
  exact own_go (fun t k => XS.ishr X.here C.1 rfl (hb C.2.1 hd) rfl k) K
theorem own_iushr (C : own_C p s m c bytes own Z ml) (X : Stand p l e R s m args below meth c T locs cells slots) {x y : Int32} (hd : decode bytes pc = .ok (.iushr, 1)) (hp : pc + 1 = pc') (K : own_E p e below P T (mkF m pc' L (.int ((x.toUInt32 >>> (y &&& 31).toUInt32).toInt32) :: S))) : own_E p e below P T (mkF m pc L (.int y :: .int x :: S)) := by
  subst hp
  exact own_go (fun t k => XS.iushr X.here C.1 rfl (hb C.2.1 hd) rfl k) K
theorem own_lshl (C : own_C p s m c bytes own Z ml) (X : Stand p l e R s m args below meth c T locs cells slots) {x : Int64} {y : Int32} (hd : decode bytes pc = .ok (.lshl, 1)) (hp : pc + 1 = pc') (K : own_E p e below P T (mkF m pc' L (.long (x <<< (y &&& 0x3f).toInt64) :: S))) : own_E p e below P T (mkF m pc L (.int y :: .long x :: S)) := by
  subst hp
  exact own_go (fun t k => XS.lshl X.here C.1 rfl (hb C.2.1 hd) rfl k) K
theorem own_lshr (C : own_C p s m c bytes own Z ml) (X : Stand p l e R s m args below meth c T locs cells slots) {x : Int64} {y : Int32} (hd : decode bytes pc = .ok (.lshr, 1)) (hp : pc + 1 = pc') (K : own_E p e below P T (mkF m pc' L (.long (x >>> (y &&& 0x3f).toInt64) :: S))) : own_E p e below P T (mkF m pc L (.int y :: .long x :: S)) := by
  subst hp
  exact own_go (fun t k => XS.lshr X.here C.1 rfl (hb C.2.1 hd) rfl k) K
theorem own_lushr (C : own_C p s m c bytes own Z ml) (X : Stand p l e R s m args below meth c T locs cells slots) {x : Int64} {y : Int32} (hd : decode bytes pc = .ok (.lushr, 1)) (hp : pc + 1 = pc') (K : own_E p e below P T (mkF m pc' L (.long ((x.toUInt64 >>> (y &&& 0x3f).toInt64.toUInt64).toInt64) :: S))) : own_E p e below P T (mkF m pc L (.int y :: .long x :: S)) := by
  subst hp
  exact own_go (fun t k => XS.lushr X.here C.1 rfl (hb C.2.1 hd) rfl k) K
theorem own_ineg (C : own_C p s m c bytes own Z ml) (X : Stand p l e R s m args below meth c T locs cells slots) {x : Int32} (hd : decode bytes pc = .ok (.ineg, 1)) (hp : pc + 1 = pc') (K : own_E p e below P T (mkF m pc' L (.int (-x) :: S))) : own_E p e below P T (mkF m pc L (.int x :: S)) := by
  subst hp
  exact own_go (fun t k => XS.ineg X.here C.1 rfl (hb C.2.1 hd) rfl k) K
theorem own_lneg (C : own_C p s m c bytes own Z ml) (X : Stand p l e R s m args below meth c T locs cells slots) {x : Int64} (hd : decode bytes pc = .ok (.lneg, 1)) (hp : pc + 1 = pc') (K : own_E p e below P T (mkF m pc' L (.long (-x) :: S))) : own_E p e below P T (mkF m pc L (.long x :: S)) := by
  subst hp
  exact own_go (fun t k => XS.lneg X.here C.1 rfl (hb C.2.1 hd) rfl k) K
theorem own_i2l (C : own_C p s m c bytes own Z ml) (X : Stand p l e R s m args below meth c T locs cells slots) {x : Int32} (hd : decode bytes pc = .ok (.i2l, 1)) (hp : pc + 1 = pc') (K : own_E p e below P T (mkF m pc' L (.long x.toInt64 :: S))) : own_E p e below P T (mkF m pc L (.int x :: S)) := by
  subst hp
  exact own_go (fun t k => XS.i2l X.here C.1 rfl (hb C.2.1 hd) rfl k) K
theorem own_l2i (C : own_C p s m c bytes own Z ml) (X : Stand p l e R s m args below meth c T locs cells slots) {x : Int64} (hd : decode bytes pc = .ok (.l2i, 1)) (hp : pc + 1 = pc') (K : own_E p e below P T (mkF m pc' L (.int x.toInt32 :: S))) : own_E p e below P T (mkF m pc L (.long x :: S)) := by
  subst hp
  exact own_go (fun t k => XS.l2i X.here C.1 rfl (hb C.2.1 hd) rfl k) K
theorem own_i2b (C : own_C p s m c bytes own Z ml) (X : Stand p l e R s m args below meth c T locs cells slots) {x : Int32} (hd : decode bytes pc = .ok (.i2b, 1)) (hp : pc + 1 = pc') (K : own_E p e below P T (mkF m pc' L (.int x.toInt8.toInt32 :: S))) : own_E p e below P T (mkF m pc L (.int x :: S)) := by
  subst hp
  exact own_go (fun t k => XS.i2b X.here C.1 rfl (hb C.2.1 hd) rfl k) K
theorem own_i2c (C : own_C p s m c bytes own Z ml) (X : Stand p l e R s m args below meth c T locs cells slots) {x : Int32} (hd : decode bytes pc = .ok (.i2c, 1)) (hp : pc + 1 = pc') (K : own_E p e below P T (mkF m pc' L (.int x.toUInt32.toUInt16.toUInt32.toInt32 :: S))) : own_E p e below P T (mkF m pc L (.int x :: S)) := by
  subst hp
  exact own_go (fun t k => XS.i2c X.here C.1 rfl (hb C.2.1 hd) rfl k) K
theorem own_dup (C : own_C p s m c bytes own Z ml) (X : Stand p l e R s m args below meth c T locs cells slots) {x : Value} (hd : decode bytes pc = .ok (.dup, 1)) (hc : x.category = 1) (hp : pc + 1 = pc') (K : own_E p e below P T (mkF m pc' L (x :: x :: S))) : own_E p e below P T (mkF m pc L (x :: S)) := by
  subst hp
  exact own_go (fun t k => XS.dup X.here C.1 rfl (hb C.2.1 hd) rfl hc k) K
theorem own_pop (C : own_C p s m c bytes own Z ml) (X : Stand p l e R s m args below meth c T locs cells slots) {x : Value} (hd : decode bytes pc = .ok (.pop, 1)) (hc : x.category = 1) (hp : pc + 1 = pc') (K : own_E p e below P T (mkF m pc' L S)) : own_E p e below P T (mkF m pc L (x :: S)) := by
  subst hp
  exact own_go (fun t k => XS.pop X.here C.1 rfl (hb C.2.1 hd) rfl hc k) K
theorem own_lcmp (C : own_C p s m c bytes own Z ml) (X : Stand p l e R s m args below meth c T locs cells slots) {x y : Int64} (hd : decode bytes pc = .ok (.lcmp, 1)) (hp : pc + 1 = pc') (K : own_E p e below P T (mkF m pc' L (.int (lcmpW x y) :: S))) : own_E p e below P T (mkF m pc L (.long y :: .long x :: S)) := by
  subst hp
  exact own_go (fun t k => XS.lcmp X.here C.1 rfl (hb C.2.1 hd) rfl k) K
theorem own_irem (C : own_C p s m c bytes own Z ml) (X : Stand p l e R s m args below meth c T locs cells slots) {x y : Int32} (hy : y ≠ 0) (hd : decode bytes pc = .ok (.irem, 1)) (hp : pc + 1 = pc') (K : own_E p e below P T (mkF m pc' L (.int (x % y) :: S))) : own_E p e below P T (mkF m pc L (.int y :: .int x :: S)) := by
  subst hp
  exact own_go (fun t k => iremM X C.1 rfl (hb C.2.1 hd) rfl hy k) K
theorem own_goto (C : own_C p s m c bytes own Z ml) (X : Stand p l e R s m args below meth c T locs cells slots) {o : Int} (hd : decode bytes pc = .ok (.goto o, 3)) (ho : 0 ≤ (pc : Int) + o) (hp : ((pc : Int) + o).toNat = pc') (K : own_E p e below P T (mkF m pc' L S)) : own_E p e below P T (mkF m pc L S) := by
  exact own_go (fun t k => XS.goto X.here C.1 rfl rfl (hb C.2.1 hd) ho hp k) K
theorem own_ifY (C : own_C p s m c bytes own Z ml) (X : Stand p l e R s m args below meth c T locs cells slots) {cd : ClassFile.Cond} {x : Int32} {o : Int} (hd : decode bytes pc = .ok (.ifCond cd o, 3)) (hc : ifCond.holds cd x = true) (ho : 0 ≤ (pc : Int) + o) (hp : ((pc : Int) + o).toNat = pc') (K : own_E p e below P T (mkF m pc' L S)) : own_E p e below P T (mkF m pc L (.int x :: S)) := by
  exact own_go (fun t k => XS.ifYes X.here C.1 rfl rfl (hb C.2.1 hd) rfl hc ho hp k) K
theorem own_ifN (C : own_C p s m c bytes own Z ml) (X : Stand p l e R s m args below meth c T locs cells slots) {cd : ClassFile.Cond} {x : Int32} {o : Int} (hd : decode bytes pc = .ok (.ifCond cd o, 3)) (hc : ifCond.holds cd x = false) (hp : pc + 3 = pc') (K : own_E p e below P T (mkF m pc' L S)) : own_E p e below P T (mkF m pc L (.int x :: S)) := by
  subst hp
  exact own_go (fun t k => XS.ifNo X.here C.1 rfl (hb C.2.1 hd) rfl hc k) K
theorem own_icmpY (C : own_C p s m c bytes own Z ml) (X : Stand p l e R s m args below meth c T locs cells slots) {cd : ClassFile.Cond} {x y : Int32} {o : Int} (hd : decode bytes pc = .ok (.if_icmp cd o, 3)) (hc : if_icmp.holds cd x y = true) (ho : 0 ≤ (pc : Int) + o) (hp : ((pc : Int) + o).toNat = pc') (K : own_E p e below P T (mkF m pc' L S)) : own_E p e below P T (mkF m pc L (.int y :: .int x :: S)) := by
  exact own_go (fun t k => XS.icmpYes X.here C.1 rfl rfl (hb C.2.1 hd) rfl hc ho hp k) K
theorem own_icmpN (C : own_C p s m c bytes own Z ml) (X : Stand p l e R s m args below meth c T locs cells slots) {cd : ClassFile.Cond} {x y : Int32} {o : Int} (hd : decode bytes pc = .ok (.if_icmp cd o, 3)) (hc : if_icmp.holds cd x y = false) (hp : pc + 3 = pc') (K : own_E p e below P T (mkF m pc' L S)) : own_E p e below P T (mkF m pc L (.int y :: .int x :: S)) := by
  subst hp
  exact own_go (fun t k => XS.icmpNo X.here C.1 rfl (hb C.2.1 hd) rfl hc k) K
theorem own_lswY (C : own_C p s m c bytes own Z ml) (X : Stand p l e R s m args below meth c T locs cells slots) {z : Int32} {d : Int} {ps : Array (Int × Int)} {len : Nat} {a off : Int} (hd : decode bytes pc = .ok (.lookupswitch d ps, len)) (hs : (ps.toList.zip (ps.toList.drop 1)).all (fun (a, next) => a.1 < next.1) = true) (hf : ps.find? (·.1 == z.toInt) = some (a, off)) (ho : 0 ≤ (pc : Int) + off) (hp : ((pc : Int) + off).toNat = pc') (K : own_E p e below P T (mkF m pc' L S)) : own_E p e below P T (mkF m pc L (.int z :: S)) := by
  subst hp
  exact own_go (fun t k => X.lookupswitchHit C.1 (g := mkF m pc L (.int z :: S)) rfl rfl (hb C.2.1 hd) hs hf ho t k) K
theorem own_lswN (C : own_C p s m c bytes own Z ml) (X : Stand p l e R s m args below meth c T locs cells slots) {z : Int32} {d : Int} {ps : Array (Int × Int)} {len : Nat} (hd : decode bytes pc = .ok (.lookupswitch d ps, len)) (hs : (ps.toList.zip (ps.toList.drop 1)).all (fun (a, next) => a.1 < next.1) = true) (hf : ps.find? (·.1 == z.toInt) = none) (ho : 0 ≤ (pc : Int) + d) (hp : ((pc : Int) + d).toNat = pc') (K : own_E p e below P T (mkF m pc' L S)) : own_E p e below P T (mkF m pc L (.int z :: S)) := by
  subst hp
  exact own_go (fun t k => X.lookupswitchMiss C.1 (g := mkF m pc L (.int z :: S)) rfl rfl (hb C.2.1 hd) hs hf ho t k) K
theorem own_ldcI (C : own_C p s m c bytes own Z ml) (X : Stand p l e R s m args below meth c T locs cells slots) {i : Nat} {v : Int32} (w : (Cond.constant own i v).before a0 Z = true) (hd : decode bytes pc = .ok (.ldc i, 2)) (hp : pc + 2 = pc') (K : own_E p e below P T (mkF m pc' L (.int v :: S))) : own_E p e below P T (mkF m pc L S) := by
  subst hp
  exact own_go (fun t k => X.ldcInt C.1 C.2.2.2.1 (mvT C.2.2.1 w) (g := mkF m pc L S) rfl (hb C.2.1 hd) t k) K
theorem own_ldcJ (C : own_C p s m c bytes own Z ml) (X : Stand p l e R s m args below meth c T locs cells slots) {i : Nat} {v : Int64} (w : (Cond.constantLong own i v).before a0 Z = true) (hd : decode bytes pc = .ok (.ldc2_w i, 3)) (hp : pc + 3 = pc') (K : own_E p e below P T (mkF m pc' L (.long v :: S))) : own_E p e below P T (mkF m pc L S) := by
  subst hp
  exact own_go (fun t k => X.ldc2Long C.1 C.2.2.2.1 (mvT C.2.2.1 w) (g := mkF m pc L S) rfl (hb C.2.1 hd) t k) K
theorem own_iaload (C : own_C p s m c bytes own Z ml) (X : Stand p l e R s m args below meth c T locs cells slots) {a : Addr} {cl : Cell} {j : Int32} {v : Value} (eT : T.heap = h) (A : Arr Z h a cl .int) (hj : ¬ (j < 0 ∨ cl.slots.size ≤ j.toNatClampNeg)) (hv : cl.slots[j.toNatClampNeg]? = some v) (hd : decode bytes pc = .ok (.iaload, 1)) (hp : pc + 1 = pc') (K : own_E p e below P T (mkF m pc' L (v :: S))) : own_E p e below P T (mkF m pc L (.int j :: .ref a :: S)) := by
  subst hp
  exact own_go (fun t k => X.iaload C.1 (by rw [eT]; exact A.1) (State.isArrayOf_alike C.2.2.1.alike A.2.1) A.2.2 hj hv (g := mkF m pc L (.int j :: .ref a :: S)) rfl rfl (hb C.2.1 hd) t k) K
theorem own_laload (C : own_C p s m c bytes own Z ml) (X : Stand p l e R s m args below meth c T locs cells slots) {a : Addr} {cl : Cell} {j : Int32} {v : Value} (eT : T.heap = h) (A : Arr Z h a cl .long) (hj : ¬ (j < 0 ∨ cl.slots.size ≤ j.toNatClampNeg)) (hv : cl.slots[j.toNatClampNeg]? = some v) (hd : decode bytes pc = .ok (.laload, 1)) (hp : pc + 1 = pc') (K : own_E p e below P T (mkF m pc' L (v :: S))) : own_E p e below P T (mkF m pc L (.int j :: .ref a :: S)) := by
  subst hp
  exact own_go (fun t k => X.laload C.1 (by rw [eT]; exact A.1) (State.isArrayOf_alike C.2.2.1.alike A.2.1) A.2.2 hj hv (g := mkF m pc L (.int j :: .ref a :: S)) rfl rfl (hb C.2.1 hd) t k) K
theorem own_baload (C : own_C p s m c bytes own Z ml) (X : Stand p l e R s m args below meth c T locs cells slots) {a : Addr} {cl : Cell} {j : Int32} {v : Value} (eT : T.heap = h) (A : Arr Z h a cl .byte) (hj : ¬ (j < 0 ∨ cl.slots.size ≤ j.toNatClampNeg)) (hv : cl.slots[j.toNatClampNeg]? = some v) (hd : decode bytes pc = .ok (.baload, 1)) (hp : pc + 1 = pc') (K : own_E p e below P T (mkF m pc' L (v :: S))) : own_E p e below P T (mkF m pc L (.int j :: .ref a :: S)) := by
  subst hp
  exact own_go (fun t k => X.baloadBytes C.1 (by rw [eT]; exact A.1) (State.isArrayOf_alike C.2.2.1.alike A.2.1) A.2.2 hj hv (g := mkF m pc L (.int j :: .ref a :: S)) rfl rfl (hb C.2.1 hd) t k) K
theorem own_alen (C : own_C p s m c bytes own Z ml) (X : Stand p l e R s m args below meth c T locs cells slots) {a : Addr} {cl : Cell} {ty : FieldType} {z : Int32} (eT : T.heap = h) (A : Arr Z h a cl ty) (hz : cl.slots.size.toInt32 = z) (hd : decode bytes pc = .ok (.arraylength, 1)) (hp : pc + 1 = pc') (K : own_E p e below P T (mkF m pc' L (.int z :: S))) : own_E p e below P T (mkF m pc L (.ref a :: S)) := by
  subst hp hz
  exact own_go (fun t k => X.arraylength C.1 (by rw [eT]; exact A.1) (State.isArrayOf_alike C.2.2.1.alike A.2.1) (g := mkF m pc L (.ref a :: S)) rfl rfl (hb C.2.1 hd) t k) K
theorem own_iastore (C : own_C p s m c bytes own Z ml) (X : Stand p l e R s m args below meth c T locs cells slots) {a : Addr} {cl : Cell} {j : Int32} {x : Int32} (eT : T.heap = h) (A : Arr Z h a cl .int) (hj : ¬ (j < 0 ∨ cl.slots.size ≤ j.toNatClampNeg)) (hd : decode bytes pc = .ok (.iastore, 1)) (hp : pc + 1 = pc') (K : ∀ T' h', Stand p l e R s m args below meth c T' (locs ++ [⟨a, j.toNatClampNeg⟩]) cells slots → T'.heap = h' → Wr h h' a j.toNatClampNeg (.int x) → Arr Z h' a (cl.setSlot j.toNatClampNeg (.int x)) .int → own_E p e below P T' (mkF m pc' L S)) : own_E p e below P T (mkF m pc L (.int x :: .int j :: .ref a :: S)) := by
  subst hp
  obtain ⟨T', h', X', e', W', st⟩ := stI X C.1 C.2.2.1 eT A hj (g := mkF m pc L (.int x :: .int j :: .ref a :: S)) rfl rfl (hb C.2.1 hd)
  exact own_go st (K T' h' X' e' W' (A.same W'))
theorem own_lastore (C : own_C p s m c bytes own Z ml) (X : Stand p l e R s m args below meth c T locs cells slots) {a : Addr} {cl : Cell} {j : Int32} {x : Int64} (eT : T.heap = h) (A : Arr Z h a cl .long) (hj : ¬ (j < 0 ∨ cl.slots.size ≤ j.toNatClampNeg)) (hd : decode bytes pc = .ok (.lastore, 1)) (hp : pc + 1 = pc') (K : ∀ T' h', Stand p l e R s m args below meth c T' (locs ++ [⟨a, j.toNatClampNeg⟩]) cells slots → T'.heap = h' → Wr h h' a j.toNatClampNeg (.long x) → Arr Z h' a (cl.setSlot j.toNatClampNeg (.long x)) .long → own_E p e below P T' (mkF m pc' L S)) : own_E p e below P T (mkF m pc L (.long x :: .int j :: .ref a :: S)) := by
  subst hp
  obtain ⟨T', h', X', e', W', st⟩ := stJ X C.1 C.2.2.1 eT A hj (g := mkF m pc L (.long x :: .int j :: .ref a :: S)) rfl rfl (hb C.2.1 hd)
  exact own_go st (K T' h' X' e' W' (A.same W'))
theorem own_bastore (C : own_C p s m c bytes own Z ml) (X : Stand p l e R s m args below meth c T locs cells slots) {a : Addr} {cl : Cell} {j : Int32} {x : Int32} (eT : T.heap = h) (A : Arr Z h a cl .byte) (hj : ¬ (j < 0 ∨ cl.slots.size ≤ j.toNatClampNeg)) (hd : decode bytes pc = .ok (.bastore, 1)) (hp : pc + 1 = pc') (K : ∀ T' h', Stand p l e R s m args below meth c T' (locs ++ [⟨a, j.toNatClampNeg⟩]) cells slots → T'.heap = h' → Wr h h' a j.toNatClampNeg (.int (nar .byte x)) → Arr Z h' a (cl.setSlot j.toNatClampNeg (.int (nar .byte x))) .byte → own_E p e below P T' (mkF m pc' L S)) : own_E p e below P T (mkF m pc L (.int x :: .int j :: .ref a :: S)) := by
  subst hp
  obtain ⟨T', h', X', e', W', st⟩ := stB X C.1 C.2.2.1 eT A hj (g := mkF m pc L (.int x :: .int j :: .ref a :: S)) rfl rfl (hb C.2.1 hd)
  exact own_go st (K T' h' X' e' W' (A.same W'))
theorem own_newP (C : own_C p s m c bytes own Z ml) (X : Stand p l e R s m args below meth c T locs cells slots) {aty : ArrayType} {n : Int32} (cap : Nat) (w : (Cond.arrayClass (newarray.typeOf aty)).before a0 Z = true) (eT : T.heap = h) (hn : ¬ n < 0) (hcap : n.toNatClampNeg ≤ cap) (hb8 : cap * 8 ≤ 536870912) (hc : cells + 1 ≤ R.cells) (hl : slots + cap ≤ R.slots) (hd : decode bytes pc = .ok (.newarray aty, 2)) (hp : pc + 2 = pc') (K : ∀ T' h' a cA, Stand p l e R s m args below meth c T' locs (cells + 1) (slots + cap) → T'.heap = h' → a = h.size → Ext h h' → Arr Z h' a (newA cA (newarray.typeOf aty) n) (newarray.typeOf aty) → own_E p e below P T' (mkF m pc' L (.ref a :: S))) : own_E p e below P T (mkF m pc L (.int n :: S)) := by
  subst hp
  obtain ⟨T', h', cA, X', e', E', A', st⟩ := newP X C.1 C.2.2.1 w eT (g := mkF m pc L (.int n :: S)) rfl (hb C.2.1 hd) rfl hn (cap := cap) hcap hb8 hc hl
  exact own_go st (K T' h' _ cA X' e' rfl E' A')
theorem own_newO (C : own_C p s m c bytes own Z ml) (X : Stand p l e R s m args below meth c T locs cells slots) {Cn : String} {i n : Nat} (w : (Cond.classLink own i Cn).before a0 Z = true) (wi : (Cond.instantiable Cn n).before a0 Z = true) (wz : (Cond.initialized Cn).before a0 Z = true) (eT : T.heap = h) (hc : cells + 1 ≤ R.cells) (hl : slots + n ≤ R.slots) (hd : decode bytes pc = .ok (.new i, 3)) (hp : pc + 3 = pc') (K : ∀ T' h' a, Stand p l e R s m args below meth c T' locs (cells + 1) (slots + n) → T'.heap = h' → a = h.size → Ext h h' → Exa Z h' a Cn → (∀ {O nm d : String} {ty : FieldType}, Laid Z a0 Cn O nm d → parseFieldDescriptor d = some ty → Fld Z h' a O nm d (defaultValue ty)) → own_E p e below P T' (mkF m pc' L (.ref a :: S))) : own_E p e below P T (mkF m pc L S) := by
  subst hp
  obtain ⟨T', h', X', e', E', A', D', -, st⟩ := newO X C.1 C.2.2.1 C.2.2.2.1 w wi wz eT (g := mkF m pc L S) rfl (hb C.2.1 hd) hc hl
  exact own_go st (K T' h' _ X' e' rfl E' A' D')
theorem own_getF (C : own_C p s m c bytes own Z ml) (X : Stand p l e R s m args below meth c T locs cells slots) {R0 O n d : String} {i : Nat} {a : Addr} {v : Value} (w : (Cond.fieldLink own i R0 n d).before a0 Z = true) (via : Via Z R0 O n d) (eT : T.heap = h) (F : Fld Z h a O n d v) (hd : decode bytes pc = .ok (.getfield i, 3)) (hp : pc + 3 = pc') (K : ∀ T', Stand p l e R s m args below meth c T' locs cells slots → T'.heap = h → own_E p e below P T' (mkF m pc' L (v :: S))) : own_E p e below P T (mkF m pc L (.ref a :: S)) := by
  subst hp
  obtain ⟨T', X', e', st⟩ := getF X C.1 C.2.2.1 C.2.2.2.1 (host := "") (Or.inl w) via eT F (g := mkF m pc L (.ref a :: S)) rfl rfl (hb C.2.1 hd)
  exact own_go st (K T' X' e')
theorem own_putF (C : own_C p s m c bytes own Z ml) (X : Stand p l e R s m args below meth c T locs cells slots) {R0 O n d Cn : String} {i kk : Nat} {ty : FieldType} {a : Addr} {v old : Value} (w : (Cond.fieldLink own i R0 n d).before a0 Z = true) (via : Via Z R0 O n d) (eT : T.heap = h) (F : Fld Z h a O n d old) (Ex : Exa Z h a Cn) (Ly : (Cond.lays Cn O n d).before a0 Z = true ∨ ((Cond.laysFinal Cn O n d).before a0 Z = true ∧ own = O ∧ meth.name = "<init>")) (wi : (Cond.instantiable Cn kk).before a0 Z = true) (hty : parseFieldDescriptor d = some ty) (hn : narrow ty v = v) (hf : fits ty v = true) (hd : decode bytes pc = .ok (.putfield i, 3)) (hp : pc + 3 = pc') (K : ∀ T' h', Stand p l e R s m args below meth c T' (locs ++ [⟨a, Jvm.RoadKit.slotOf Z O n d⟩]) cells slots → T'.heap = h' → Wr h h' a (Jvm.RoadKit.slotOf Z O n d) v → Fld Z h' a O n d v → Exa Z h' a Cn → own_E p e below P T' (mkF m pc' L S)) : own_E p e below P T (mkF m pc L (v :: .ref a :: S)) := by
  subst hp
  obtain ⟨T', h', X', e', W', st⟩ := putF X C.1 C.2.2.1 C.2.2.2.1 (host := "") (Or.inl w) via eT F Ex Ly wi hty hn hf (g := mkF m pc L (v :: .ref a :: S)) rfl rfl (hb C.2.1 hd)
  exact own_go st (K T' h' X' e' W' (F.same W') (Ex.wr W'))
theorem own_callS (C : own_C p s m c bytes own Z ml) (X : Stand p l e R s m args below meth c T locs cells slots) {y : MethodName} {i mL : Nat} {cb : ByteArray} {rt : Option FieldType} {rm : Room} {as' : Array Value} {Q : Option Value → Heap → List Loc → Prop} {r : Value} (W : Nat) (argsL : List Value) (w1 : (Cond.methodLink own i y).before a0 Z = true) (w2 : (Cond.static y).before a0 Z = true) (w3 : (Cond.initialized y.cls).before a0 Z = true) (w4 : (Cond.code y cb mL rt).before a0 Z = true) (hy : y.cls ≠ "java/lang/invoke/MethodHandle" ∧ y.cls ≠ "java/lang/invoke/VarHandle") (eT : T.heap = h) (hM : MetFree l y (head1 [Cond.code y cb mL rt] rm) (fun a U => a = as' ∧ Z.Warmed39 U.vm ∧ U.heap = h) (fun _ _ _ _ _ => True) (fun _ U o U' => ∃ v L, o = .returned v ∧ Q v U'.heap L ∧ FrameEnd U o U' L rm.cells rm.slots)) (ha : argsL.toArray = as') (hf : rm.frames + 1 ≤ R.frames) (hlo : W + (mL + 11) + rm.locals ≤ R.locals) (hsz : L.size = ml) (hlen : ∀ sig, parseMethodDescriptor y.desc = some sig → argsL.length = sig.parameters.length) {S' : List Value} (hS : S' = argsL.reverse ++ S) (hW : (S.map fun v => v.category).sum ≤ W) (hc : cells + rm.cells ≤ R.cells) (hs : slots + rm.slots ≤ R.slots) (hd : decode bytes pc = .ok (.invokestatic i, 3)) (hp : pc + 3 = pc') (hr : ∀ v h L, Q v h L → v = some r) (K : ∀ T' Lc, Stand p l e R s m args below meth c T' (locs ++ Lc) (cells + rm.cells) (slots + rm.slots) → Q (some r) T'.heap Lc → own_E p e below P T' (mkF m pc' L (r :: S))) : own_E p e below P T (mkF m pc L S') := by
  subst hp hS ha
  obtain ⟨v, _, ⟨T', L1, k1, n1⟩, -, X', ⟨Lc, hQ, l1, y1, z1⟩, st⟩ := Jvm.LawKit.callS X C.1 (y := y) C.2.2.2.1 (mvT C.2.2.1 w1) (mvT C.2.2.1 w2) (mvT C.2.2.1 w3) (mvT C.2.2.1 w4) hy (backOf (W := W) hM C.2.2.1 w4 w3 hf hlo) (g := mkF m pc L (argsL.reverse ++ S)) rfl (hsz.trans C.2.2.2.2.symm) (argsL := argsL) (rest := S) hlen rfl (by show 2 * 0 + _ ≤ _; omega) (hb C.2.1 hd) (fun _ _ => ⟨rfl, eT, hc, hs⟩)
  dsimp only [Pt.U, Pt.locs, Pt.cells, Pt.slots] at X' l1 y1 z1 st hQ
  subst l1 y1 z1
  cases hr _ _ _ hQ
  exact own_go st (K T' Lc X' hQ)
theorem own_callI (C : own_C p s m c bytes own Z ml) (X : Stand p l e R s m args below meth c T locs cells slots) {y : MethodName} {i mL : Nat} {cb : ByteArray} {rm : Room} {as' : Array Value} {Q : Option Value → Heap → List Loc → Prop} {b : Addr} (W : Nat) (argsL : List Value) (w1 : (Cond.methodLink own i y).before a0 Z = true) (hy1 : y.name = "<init>") (w2 : (Cond.instanceMethod y).before a0 Z = true) (w3 : (Cond.initialized y.cls).before a0 Z = true) (w4 : (Cond.code y cb mL none).before a0 Z = true) (hy : y.cls ≠ "java/lang/invoke/MethodHandle" ∧ y.cls ≠ "java/lang/invoke/VarHandle") (eT : T.heap = h) (hM : MetFree l y (head1 [Cond.code y cb mL none] rm) (fun a U => a = as' ∧ Z.Warmed39 U.vm ∧ U.heap = h) (fun _ _ _ _ _ => True) (fun _ U o U' => ∃ v L, o = .returned v ∧ Q v U'.heap L ∧ FrameEnd U o U' L rm.cells rm.slots)) (ha : (.ref b :: argsL).toArray = as') (hf : rm.frames + 1 ≤ R.frames) (hlo : W + (mL + 11) + rm.locals ≤ R.locals) (hsz : L.size = ml) (hlen : ∀ sig, parseMethodDescriptor y.desc = some sig → argsL.length = sig.parameters.length) {S' : List Value} (hS : S' = argsL.reverse ++ .ref b :: S) (hW : (S.map fun v => v.category).sum ≤ W) (hc : cells + rm.cells ≤ R.cells) (hs : slots + rm.slots ≤ R.slots) (hd : decode bytes pc = .ok (.invokespecial i, 3)) (hp : pc + 3 = pc') (hr : ∀ v h L, Q v h L → v = none) (K : ∀ T' Lc, Stand p l e R s m args below meth c T' (locs ++ Lc) (cells + rm.cells) (slots + rm.slots) → Q (none) T'.heap Lc → own_E p e below P T' (mkF m pc' L S)) : own_E p e below P T (mkF m pc L S') := by
  subst hp hS ha
  obtain ⟨v, _, ⟨T', L1, k1, n1⟩, -, X', ⟨Lc, hQ, l1, y1, z1⟩, st⟩ := X.specialBack C.1 (y := y) hy1 C.2.2.2.1 (mvT C.2.2.1 w1) (mvT C.2.2.1 w2) (mvT C.2.2.1 w4) hy (backOf (W := W) hM C.2.2.1 w4 w3 hf hlo) (g := mkF m pc L (argsL.reverse ++ .ref b :: S)) rfl (hsz.trans C.2.2.2.2.symm) (Steps.refl _) (a := b) (argsL := argsL) (rest := S) hlen rfl (by show 2 * 0 + _ ≤ _; omega) (hb C.2.1 hd) (fun _ _ => ⟨rfl, eT, hc, hs⟩)
  dsimp only [Pt.U, Pt.locs, Pt.cells, Pt.slots] at X' l1 y1 z1 st hQ
  subst l1 y1 z1
  cases hr _ _ _ hQ
  obtain ⟨t, o, h1, h2⟩ := K T' Lc X' hQ
  exact ⟨t, o, st.trans h1, h2⟩
theorem own_callV (C : own_C p s m c bytes own Z ml) (X : Stand p l e R s m args below meth c T locs cells slots) {y : MethodName} {i mL : Nat} {cb : ByteArray} {rt : Option FieldType} {rm : Room} {as' : Array Value} {Q : Option Value → Heap → List Loc → Prop} {b : Addr} {Cn : String} {r : Value} (W : Nat) (argsL : List Value) (w1 : (Cond.methodLink own i y).before a0 Z = true) (w2 : (Cond.declares y).before a0 Z = true) (w5 : (Cond.selects Cn y y).before a0 Z = true) (w6 : (Cond.instanceMethod y).before a0 Z = true) (w3 : (Cond.initialized y.cls).before a0 Z = true) (w4 : (Cond.code y cb mL rt).before a0 Z = true) (Ex : Exa Z h b Cn) (hy : y.cls ≠ "java/lang/invoke/MethodHandle" ∧ y.cls ≠ "java/lang/invoke/VarHandle") (eT : T.heap = h) (hM : MetFree l y (head1 [Cond.code y cb mL rt] rm) (fun a U => a = as' ∧ Z.Warmed39 U.vm ∧ U.heap = h) (fun _ _ _ _ _ => True) (fun _ U o U' => ∃ v L, o = .returned v ∧ Q v U'.heap L ∧ FrameEnd U o U' L rm.cells rm.slots)) (ha : (.ref b :: argsL).toArray = as') (hf : rm.frames + 1 ≤ R.frames) (hlo : W + (mL + 11) + rm.locals ≤ R.locals) (hsz : L.size = ml) (hlen : ∀ sig, parseMethodDescriptor y.desc = some sig → argsL.length = sig.parameters.length) {S' : List Value} (hS : S' = argsL.reverse ++ .ref b :: S) (hW : (S.map fun v => v.category).sum ≤ W) (hc : cells + rm.cells ≤ R.cells) (hs : slots + rm.slots ≤ R.slots) (hd : decode bytes pc = .ok (.invokevirtual i, 3)) (hp : pc + 3 = pc') (hr : ∀ v h L, Q v h L → v = some r) (K : ∀ T' Lc, Stand p l e R s m args below meth c T' (locs ++ Lc) (cells + rm.cells) (slots + rm.slots) → Q (some r) T'.heap Lc → own_E p e below P T' (mkF m pc' L (r :: S))) : own_E p e below P T (mkF m pc L S') := by
  subst hp hS ha
  obtain ⟨cq, kq, qa, qb, qc⟩ := isOf C.2.2.1 eT Ex
  obtain ⟨v, _, ⟨T', L1, k1, n1⟩, -, X', ⟨Lc, hQ, l1, y1, z1⟩, st⟩ := X.virtualBack C.1 (y := y) (z := y) C.2.2.2.1 (mvT C.2.2.1 w1) (mvT C.2.2.1 w2) (notFace_of_selects (args := #[]) (mvT C.2.2.1 w5)) (mvT C.2.2.1 w5) (mvT C.2.2.1 w6) hy (backOf (W := W) hM C.2.2.1 w4 w3 hf hlo) qa qc (g := mkF m pc L (argsL.reverse ++ .ref b :: S)) rfl (hsz.trans C.2.2.2.2.symm) (Steps.refl _) (argsL := argsL) (rest := S) hlen rfl (by show 2 * 0 + _ ≤ _; omega) (hb C.2.1 hd) (fun _ _ => ⟨rfl, eT, hc, hs⟩)
  dsimp only [Pt.U, Pt.locs, Pt.cells, Pt.slots] at X' l1 y1 z1 st hQ
  subst l1 y1 z1
  cases hr _ _ _ hQ
  obtain ⟨t, o, h1, h2⟩ := K T' Lc X' hQ
  exact ⟨t, o, st.trans h1, h2⟩
theorem own_retI (C : own_C p s m c bytes own Z ml) (X : Stand p l e R s m args below meth c T locs cells slots) {Q : Option Value → Heap → List Loc → Prop} {k n : Nat} {z : Int32} (hret : meth.sig.returnType = some .int) (hl : meth.locks = false) (hk : cells ≤ k) (hn : slots ≤ n) (hd : decode bytes pc = .ok (.ireturn, 1)) (hQ : Q (some (.int z)) T.heap locs) : own_E p e below (own_R s below Q k n) T (mkF m pc L (.int z :: S)) := by
  obtain ⟨fs, hr, hrun, hended, hW, hsame⟩ := X.leave (v := some (.int z)) (fun h => by rw [hret] at h; cases h) hl
  exact ⟨_, _, retOut X C.1 hret rfl (Or.inl ⟨rfl, Or.inl rfl, _, rfl⟩) (hb C.2.1 hd) hr, hrun, hended, _, _, rfl, hQ, ⟨_, rfl⟩, hW, hsame.mono hk hn⟩
theorem own_retJ (C : own_C p s m c bytes own Z ml) (X : Stand p l e R s m args below meth c T locs cells slots) {Q : Option Value → Heap → List Loc → Prop} {k n : Nat} {z : Int64} (hret : meth.sig.returnType = some .long) (hl : meth.locks = false) (hk : cells ≤ k) (hn : slots ≤ n) (hd : decode bytes pc = .ok (.lreturn, 1)) (hQ : Q (some (.long z)) T.heap locs) : own_E p e below (own_R s below Q k n) T (mkF m pc L (.long z :: S)) := by
  obtain ⟨fs, hr, hrun, hended, hW, hsame⟩ := X.leave (v := some (.long z)) (fun h => by rw [hret] at h; cases h) hl
  exact ⟨_, _, retOut X C.1 hret rfl (Or.inr (Or.inl ⟨rfl, rfl, _, rfl⟩)) (hb C.2.1 hd) hr, hrun, hended, _, _, rfl, hQ, ⟨_, rfl⟩, hW, hsame.mono hk hn⟩
theorem own_retN (C : own_C p s m c bytes own Z ml) (X : Stand p l e R s m args below meth c T locs cells slots) {Q : Option Value → Heap → List Loc → Prop} {k n : Nat} {z : Int32} {t : FieldType} (hret : meth.sig.returnType = some t) (ht : t = .boolean ∨ t = .byte ∨ t = .char ∨ t = .short) (hl : meth.locks = false) (hk : cells ≤ k) (hn : slots ≤ n) (hd : decode bytes pc = .ok (.ireturn, 1)) (hQ : Q (some (.int (nar t z))) T.heap locs) : own_E p e below (own_R s below Q k n) T (mkF m pc L (.int z :: S)) := by
  obtain ⟨fs, hr, hrun, hended, hW, hsame⟩ := X.leave (v := some (.int (nar t z))) (fun h => by rw [hret] at h; cases h) hl
  exact ⟨_, _, retN X C.1 hret ht (hb C.2.1 hd) hr, hrun, hended, _, _, rfl, hQ, ⟨_, rfl⟩, hW, hsame.mono hk hn⟩
theorem own_retV (C : own_C p s m c bytes own Z ml) (X : Stand p l e R s m args below meth c T locs cells slots) {Q : Option Value → Heap → List Loc → Prop} {k n : Nat} (hret : meth.sig.returnType = none) (hl : meth.locks = false) (hk : cells ≤ k) (hn : slots ≤ n) (hd : decode bytes pc = .ok (.return_, 1)) (hQ : Q none T.heap locs) : own_E p e below (own_R s below Q k n) T (mkF m pc L []) := by
  obtain ⟨fs, hr, hrun, hended, hW, hsame⟩ := X.leave (v := none) (fun _ => rfl) hl
  exact ⟨_, _, X.returnOut C.1 hret (hb C.2.1 hd) hr, hrun, hended, _, _, rfl, hQ, ⟨_, rfl⟩, hW, hsame.mono hk hn⟩
theorem own_iinc (C : own_C p s m c bytes own Z ml) (X : Stand p l e R s m args below meth c T locs cells slots) {k : Nat} {ct : Int} {v : Int32} (hd : decode bytes pc = .ok (.iinc k ct, 3)) (hl : L[k]? = some (.val (.int v))) (hl' : storeLocals L k (.int (v + Int32.ofInt ct)) = some L') (hp : pc + 3 = pc') (K : own_E p e below P T (mkF m pc' L' S)) : own_E p e below P T (mkF m pc L S) := by
  subst hp
  exact own_go (fun t k => XS.iinc X.here C.1 rfl (hb C.2.1 hd) hl hl' k) K
theorem own_ldcwI (C : own_C p s m c bytes own Z ml) (X : Stand p l e R s m args below meth c T locs cells slots) {i : Nat} {v : Int32} (w : (Cond.constant own i v).before a0 Z = true) (hd : decode bytes pc = .ok (.ldc_w i, 3)) (hp : pc + 3 = pc') (K : own_E p e below P T (mkF m pc' L (.int v :: S))) : own_E p e below P T (mkF m pc L S) := by
  subst hp
  exact own_go (fun t k => X.ldcwInt C.1 C.2.2.2.1 (mvT C.2.2.1 w) (g := mkF m pc L S) rfl (hb C.2.1 hd) t k) K
theorem own_retA (C : own_C p s m c bytes own Z ml) (X : Stand p l e R s m args below meth c T locs cells slots) {Q : Option Value → Heap → List Loc → Prop} {k n : Nat} {z : Addr} {ty : FieldType} (hret : meth.sig.returnType = some (.array ty)) (hl : meth.locks = false) (hk : cells ≤ k) (hn : slots ≤ n) (hd : decode bytes pc = .ok (.areturn, 1)) (hQ : Q (some (.ref z)) T.heap locs) : own_E p e below (own_R s below Q k n) T (mkF m pc L (.ref z :: S)) := by
  obtain ⟨fs, hr, hrun, hended, hW, hsame⟩ := X.leave (v := some (.ref z)) (fun h => by rw [hret] at h; cases h) hl
  exact ⟨_, _, retOut X C.1 hret rfl (Or.inr (Or.inr (Or.inr (Or.inr ⟨rfl, rfl, rfl⟩)))) (hb C.2.1 hd) hr, hrun, hended, _, _, rfl, hQ, ⟨_, rfl⟩, hW, hsame.mono hk hn⟩
theorem own_arrK {a : Addr} {cl : Cell} {ty : FieldType} {h' : Heap} {ws : List Addr} (A : Arr Z h a cl ty) (K : Keep h h' ws) (q : a ∉ ws) : Arr Z h' a cl ty := ⟨K.2.1 a cl A.1 q, A.2⟩
theorem own_ne {a b : Addr} (hl : a < h.size) (g : b = h.size) : a ≠ b := fun q => by rw [q, g] at hl; exact Nat.lt_irrefl _ hl
theorem own_idx {j : Int32} {cl : Cell} {n : Nat} (S : cl.slots.size = n) (h0 : 0 ≤ j.toInt) (h1 : j.toInt < n) : ¬ (j < 0 ∨ cl.slots.size ≤ j.toNatClampNeg) := by
  have z : (0 : Int32).toInt = 0 := rfl
  rw [S, Int32.lt_iff_toInt_lt, z]
  simp only [Int32.toNatClampNeg]
  omega
theorem own_set {cl : Cell} {i j : Nat} {v : Value} (hi : i < cl.slots.size) : (cl.setSlot i v).slots[j]? = if i = j then some v else cl.slots[j]? := by
  simp only [Cell.setSlot, Array.getElem?_setIfInBounds]
  split <;> simp [hi]
theorem own_setS {cl : Cell} {i n : Nat} {v : Value} (S : cl.slots.size = n) : (cl.setSlot i v).slots.size = n := by
  simp [Cell.setSlot, S]
theorem own_initO (C : own_C p s m c bytes own Z ml) (X : Stand p l e R s m args below meth c T locs cells slots) {i : Nat} {a : Addr} (W : Nat) (w1 : (Cond.methodLink own i Lib.objectInit).before a0 Z = true) (w2 : (Cond.instanceMethod Lib.objectInit).before a0 Z = true) (w3 : (Cond.code Lib.objectInit object_method_1_code 1 none).before a0 Z = true) (eT : T.heap = h) (hsz : L.size = ml) (hf : 1 ≤ R.frames) (hW : (S.map fun v => v.category).sum ≤ W) (hl : W + 12 ≤ R.locals) (hd : decode bytes pc = .ok (.invokespecial i, 3)) (hp : pc + 3 = pc') (K : ∀ T', Stand p l e R s m args below meth c T' locs cells slots → T'.heap = h → own_E p e below P T' (mkF m pc' L S)) : own_E p e below P T (mkF m pc L (.ref a :: S)) := by
  subst hp
  obtain ⟨T', X', e', st⟩ := initO X C.1 C.2.2.1 C.2.2.2.1 w1 w2 w3 eT (g := mkF m pc L (.ref a :: S)) rfl (hsz.trans C.2.2.2.2.symm) rfl (hb C.2.1 hd) hf (W := W) (by show 2 * 0 + _ ≤ _; omega) hl
  exact own_go st (K T' X' e')
def own_RW (s : State) (below : List Frame) (Q : Option Value → Heap → List Loc → Prop) (k n : Nat) : State → Outcome → Prop := fun t o => t.status = .running ∧ Ended t below o ∧ ∃ v L, o = .returned v ∧ Q v t.heap L ∧ ReturnedEndW s o t L k n
theorem own_ldcS (C : own_C p s m c bytes own Z ml) (X : Stand p l e R s m args below meth c T locs cells slots) {i n : Nat} {text : String} (w : (Cond.stringLink own i text).before a0 Z = true) (wS : ∀ a ∈ Bundle.stringAtoms, a.before a0 Z = true) (eT : T.heap = h) (hn : 4 * text.toList.length ≤ n) (hbig : n ≤ 536870912) (hc : cells + 2 ≤ R.cells) (hl : slots + (n + 4) ≤ R.slots) (hd : decode bytes pc = .ok (.ldc i, 2)) (hp : pc + 2 = pc') (K : ∀ T' h' a k1, own_C p (s.setVm T'.vm) m c bytes own Z ml → Stand p l e R (s.setVm T'.vm) m args below meth c T' locs (cells + 2) (slots + (n + 4)) → T'.heap = h' → Ext h h' → s.Since T'.vm k1 → k1 ≤ h'.size → own_E p e below P T' (mkF m pc' L (.ref a :: S))) : own_E p e below P T (mkF m pc L S) := by
  subst hp
  obtain ⟨a, T', h', k1, X', e', E', hS, hk, hZ', ho', st⟩ := ldcS (s := s) (vm0 := s.vm) X C.1 C.2.2.1 C.2.2.2.1 w wS eT (k0 := 0) ((State.WarmedH.refl s).since 0) (Nat.zero_le _) (g := mkF m pc L S) rfl (hb C.2.1 hd) hn hbig hc hl
  exact own_go st (K T' h' a k1 ⟨C.1, C.2.1, hZ', ho', C.2.2.2.2⟩ X' e' E' hS hk)
theorem own_retNW {vm1 : Vm} {k1 : Nat} (C : own_C p (s.setVm vm1) m c bytes own Z ml) (X : Stand p l e R (s.setVm vm1) m args below meth c T locs cells slots) (hS : s.Since vm1 k1) (hk1 : k1 ≤ T.heap.size) {Q : Option Value → Heap → List Loc → Prop} {k n : Nat} {z : Int32} {t : FieldType} (hret : meth.sig.returnType = some t) (ht : t = .boolean ∨ t = .byte ∨ t = .char ∨ t = .short) (hl : meth.locks = false) (hk : cells ≤ k) (hn : slots ≤ n) (hd : decode bytes pc = .ok (.ireturn, 1)) (hQ : Q (some (.int (nar t z))) T.heap locs) : own_E p e below (own_RW s below Q k n) T (mkF m pc L (.int z :: S)) := by
  obtain ⟨fs, hr, hrun, hended, hW⟩ := X.leaveW hS hk1 (v := some (.int (nar t z))) (fun h => by rw [hret] at h; cases h) hl
  exact ⟨_, _, retN X C.1 hret ht (hb C.2.1 hd) hr, hrun, hended, _, _, rfl, hQ, ⟨_, rfl⟩, hW.2.1, hW.2.2.1, hW.2.2.2.mono hk hn⟩
end Own

theorem d4_0 : decode prog_63_method_4_code 0 = .ok (.aload_n 0, 1) := by decide +kernel
theorem d4_1 : decode prog_63_method_4_code 1 = .ok (.invokespecial 15, 3) := by decide +kernel
theorem d4_4 : decode prog_63_method_4_code 4 = .ok (.aload_n 0, 1) := by decide +kernel
theorem d4_5 : decode prog_63_method_4_code 5 = .ok (.aload_n 1, 1) := by decide +kernel
theorem d4_6 : decode prog_63_method_4_code 6 = .ok (.putfield 20, 3) := by decide +kernel
theorem d4_9 : decode prog_63_method_4_code 9 = .ok (.aload_n 0, 1) := by decide +kernel
theorem d4_10 : decode prog_63_method_4_code 10 = .ok (.aload_n 2, 1) := by decide +kernel
theorem d4_11 : decode prog_63_method_4_code 11 = .ok (.putfield 24, 3) := by decide +kernel
theorem d4_14 : decode prog_63_method_4_code 14 = .ok (.aload_n 0, 1) := by decide +kernel
theorem d4_15 : decode prog_63_method_4_code 15 = .ok (.iload_n 3, 1) := by decide +kernel
theorem d4_16 : decode prog_63_method_4_code 16 = .ok (.putfield 27, 3) := by decide +kernel
theorem d4_19 : decode prog_63_method_4_code 19 = .ok (.aload_n 0, 1) := by decide +kernel
theorem d4_20 : decode prog_63_method_4_code 20 = .ok (.aload 4, 2) := by decide +kernel
theorem d4_22 : decode prog_63_method_4_code 22 = .ok (.putfield 31, 3) := by decide +kernel
theorem d4_25 : decode prog_63_method_4_code 25 = .ok (.aload_n 0, 1) := by decide +kernel
theorem d4_26 : decode prog_63_method_4_code 26 = .ok (.aload 5, 2) := by decide +kernel
theorem d4_28 : decode prog_63_method_4_code 28 = .ok (.putfield 35, 3) := by decide +kernel
theorem d4_31 : decode prog_63_method_4_code 31 = .ok (.return_, 1) := by decide +kernel
theorem pn_4 : plainName "com/example/anchovy/anchovy/model/Frame" = true := by first | (simp [plainName, overriddenIn]; done) | decide +kernel
def Q4 (Z : State) (a1 : Addr) (g : Addr) (lo : Addr) (h0 : Heap) (n0 : Nat) (v : Option Value) (h : Heap) (L : List Loc) : Prop := v = none ∧ Fr n0 L ∧ Keep h0 h [a1] ∧ Exa Z h a1 "com/example/anchovy/anchovy/model/Frame" ∧ Fld Z h a1 "com/example/anchovy/anchovy/model/Frame" "globals" "[I" (.ref g) ∧ Fld Z h a1 "com/example/anchovy/anchovy/model/Frame" "locals" "[I" (.ref lo) ∧ Fld Z h a1 "com/example/anchovy/anchovy/model/Frame" "base" "I" (.int 0)
theorem ef_4 (m : MethodId) (a1 : Addr) (g : Addr) (lo : Addr) : entryFrame m #[(.ref a1), (.ref g), (.ref lo), (.int 0), (.null), (.null)] 6 = mkF m 0 #[.val (.ref a1), .val (.ref g), .val (.ref lo), .val (.int 0), .val (.null), .val (.null)] [] := by first | (simp [entryFrame, mkF, argsToLocals, Value.category]; done) | rfl
set_option maxRecDepth 65536 in
set_option maxHeartbeats 40000000 in
theorem rm4 (l : Launch) (Z : State) (a0 : Array Value) (hw : ∀ d ∈ tables_1, d.before a0 Z = true) (ws : List Jvm.Cond) (a1 : Addr) (g : Addr) (lo : Addr) (h0 : Heap) (n0 : Nat) (Z0 : n0 ≤ h0.size) (E1 : Exa Z h0 a1 "com/example/anchovy/anchovy/model/Frame") (F_globals : Fld Z h0 a1 "com/example/anchovy/anchovy/model/Frame" "globals" "[I" (.null)) (F_locals : Fld Z h0 a1 "com/example/anchovy/anchovy/model/Frame" "locals" "[I" (.null)) (F_stateFixed : Fld Z h0 a1 "com/example/anchovy/anchovy/model/Frame" "stateFixed" "Z" (.int 0)) (F_printed : Fld Z h0 a1 "com/example/anchovy/anchovy/model/Frame" "printed" "Ljava/lang/StringBuilder;" (.null)) (F_symmetry : Fld Z h0 a1 "com/example/anchovy/anchovy/model/Frame" "symmetry" "Lcom/example/anchovy/anchovy/model/Symmetry;" (.null)) (F_base : Fld Z h0 a1 "com/example/anchovy/anchovy/model/Frame" "base" "I" (.int 0)) (g1 : n0 ≤ a1) :
    MetFree l (⟨"com/example/anchovy/anchovy/model/Frame", "<init>", "([I[IZLjava/lang/StringBuilder;Lcom/example/anchovy/anchovy/model/Symmetry;)V"⟩ : MethodName) (head1 (Jvm.Cond.code (⟨"com/example/anchovy/anchovy/model/Frame", "<init>", "([I[IZLjava/lang/StringBuilder;Lcom/example/anchovy/anchovy/model/Symmetry;)V"⟩ : MethodName) prog_63_method_4_code 6 none :: ws) ({ frames := 1, cells := 0, slots := 0, locals := 12 } : Room)) (fun a U => a = #[(.ref a1), (.ref g), (.ref lo), (.int 0), (.null), (.null)] ∧ Z.Warmed39 U.vm ∧ U.heap = h0) (fun _ _ _ _ _ => True) (fun _ U o U' => ∃ v L, o = .returned v ∧ Q4 Z a1 g lo h0 n0 v U'.heap L ∧ FrameEnd U o U' L ({ frames := 1, cells := 0, slots := 0, locals := 12 } : Room).cells ({ frames := 1, cells := 0, slots := 0, locals := 12 } : Room).slots) := by
  refine MetFree.of_bodySF (plainFor_of_name pn_4) hisR ?_
  intro p e s m args below meth c s₁ Bd hml0 hP hK
  obtain ⟨rfl, hZ, hh⟩ := hP
  have hnm := (name_of_methodNamed Bd.named Bd.method).1
  have C : own_C p s m c prog_63_method_4_code "com/example/anchovy/anchovy/model/Frame" Z 6 := ⟨Bd.exec, Bd.bytes, hZ, findClass_of_methodNamed Bd.named, hml0⟩
  have X0 : Stand p l e ({ frames := 1, cells := 0, slots := 0, locals := 12 } : Room) s m #[(.ref a1), (.ref g), (.ref lo), (.int 0), (.null), (.null)] below meth c s₁ [] 0 0 := Stand.of_body Bd
  have e0 : s₁.heap = h0 := by rw [← hh, Bd.state]; rfl
  have N0 := Fr.nil n0
  show own_E p e below (own_R s below (Q4 Z a1 g lo h0 n0) ({ frames := 1, cells := 0, slots := 0, locals := 12 } : Room).cells ({ frames := 1, cells := 0, slots := 0, locals := 12 } : Room).slots) s₁ (entryFrame m #[(.ref a1), (.ref g), (.ref lo), (.int 0), (.null), (.null)] 6)
  rw [ef_4]
  refine own_aloadN C X0 d4_0 rfl rfl rfl ?_
  refine own_initO C X0 0 (hw _ (List.mem_of_getElem? (i := 16) rfl)) (hw _ (List.mem_of_getElem? (i := 17) rfl)) (hw _ (List.mem_of_getElem? (i := 18) rfl)) e0 rfl (by decide) (Nat.le_of_eq rfl) (by decide) d4_1 rfl fun T1_ X1_ e1_ => ?_
  refine own_aloadN C X1_ d4_4 rfl rfl rfl ?_
  refine own_aloadN C X1_ d4_5 rfl rfl rfl ?_
  refine own_putF C X1_ (hw _ (List.mem_of_getElem? (i := 19) rfl)) Via.refl e1_ F_globals E1 (Or.inr ⟨(hw _ (List.mem_of_getElem? (i := 20) rfl)), rfl, hnm⟩) (hw _ (List.mem_of_getElem? (i := 2) rfl)) (ty := .array .int) (by decide) rfl rfl d4_6 rfl fun T2_ h2_ X2_ e2_ W2_ F2_ E2_ => ?_
  have F_locals_2 := F_locals.other W2_ (Or.inr (slot_ne (t := .array .int) (t' := .array .int) (Or.inr (hw _ (List.mem_of_getElem? (i := 22) rfl))) (Or.inr (hw _ (List.mem_of_getElem? (i := 20) rfl))) (by decide) (by decide) (by decide)))
  have F_stateFixed_2 := F_stateFixed.other W2_ (Or.inr (slot_ne (t := .boolean) (t' := .array .int) (Or.inr (hw _ (List.mem_of_getElem? (i := 24) rfl))) (Or.inr (hw _ (List.mem_of_getElem? (i := 20) rfl))) (by decide) (by decide) (by decide)))
  have F_printed_2 := F_printed.other W2_ (Or.inr (slot_ne (t := .object "java/lang/StringBuilder") (t' := .array .int) (Or.inr (hw _ (List.mem_of_getElem? (i := 26) rfl))) (Or.inr (hw _ (List.mem_of_getElem? (i := 20) rfl))) (by decide) (by decide) (by decide)))
  have F_symmetry_2 := F_symmetry.other W2_ (Or.inr (slot_ne (t := .object "com/example/anchovy/anchovy/model/Symmetry") (t' := .array .int) (Or.inr (hw _ (List.mem_of_getElem? (i := 28) rfl))) (Or.inr (hw _ (List.mem_of_getElem? (i := 20) rfl))) (by decide) (by decide) (by decide)))
  have F_base_2 := F_base.other W2_ (Or.inr (slot_ne (t := .int) (t' := .array .int) (Or.inl (hw _ (List.mem_of_getElem? (i := 30) rfl))) (Or.inr (hw _ (List.mem_of_getElem? (i := 20) rfl))) (by decide) (by decide) (by decide)))
  have K_2 := (Keep.refl h0 [a1]).wr W2_ (Or.inl (List.mem_of_getElem? (i := 0) rfl))
  have N_2 := Fr.snoc X2_ N0 g1
  refine own_aloadN C X2_ d4_9 rfl rfl rfl ?_
  refine own_aloadN C X2_ d4_10 rfl rfl rfl ?_
  refine own_putF C X2_ (hw _ (List.mem_of_getElem? (i := 21) rfl)) Via.refl e2_ F_locals_2 E2_ (Or.inr ⟨(hw _ (List.mem_of_getElem? (i := 22) rfl)), rfl, hnm⟩) (hw _ (List.mem_of_getElem? (i := 2) rfl)) (ty := .array .int) (by decide) rfl rfl d4_11 rfl fun T3_ h3_ X3_ e3_ W3_ F3_ E3_ => ?_
  have F_globals_3 := F2_.other W3_ (Or.inr (slot_ne (t := .array .int) (t' := .array .int) (Or.inr (hw _ (List.mem_of_getElem? (i := 20) rfl))) (Or.inr (hw _ (List.mem_of_getElem? (i := 22) rfl))) (by decide) (by decide) (by decide)))
  have F_stateFixed_3 := F_stateFixed_2.other W3_ (Or.inr (slot_ne (t := .boolean) (t' := .array .int) (Or.inr (hw _ (List.mem_of_getElem? (i := 24) rfl))) (Or.inr (hw _ (List.mem_of_getElem? (i := 22) rfl))) (by decide) (by decide) (by decide)))
  have F_printed_3 := F_printed_2.other W3_ (Or.inr (slot_ne (t := .object "java/lang/StringBuilder") (t' := .array .int) (Or.inr (hw _ (List.mem_of_getElem? (i := 26) rfl))) (Or.inr (hw _ (List.mem_of_getElem? (i := 22) rfl))) (by decide) (by decide) (by decide)))
  have F_symmetry_3 := F_symmetry_2.other W3_ (Or.inr (slot_ne (t := .object "com/example/anchovy/anchovy/model/Symmetry") (t' := .array .int) (Or.inr (hw _ (List.mem_of_getElem? (i := 28) rfl))) (Or.inr (hw _ (List.mem_of_getElem? (i := 22) rfl))) (by decide) (by decide) (by decide)))
  have F_base_3 := F_base_2.other W3_ (Or.inr (slot_ne (t := .int) (t' := .array .int) (Or.inl (hw _ (List.mem_of_getElem? (i := 30) rfl))) (Or.inr (hw _ (List.mem_of_getElem? (i := 22) rfl))) (by decide) (by decide) (by decide)))
  have K_3 := (K_2).wr W3_ (Or.inl (List.mem_of_getElem? (i := 0) rfl))
  have N_3 := Fr.snoc X3_ N_2 g1
  refine own_aloadN C X3_ d4_14 rfl rfl rfl ?_
  refine own_iloadN C X3_ d4_15 rfl rfl ?_
  refine own_putF C X3_ (hw _ (List.mem_of_getElem? (i := 23) rfl)) Via.refl e3_ F_stateFixed_3 E3_ (Or.inr ⟨(hw _ (List.mem_of_getElem? (i := 24) rfl)), rfl, hnm⟩) (hw _ (List.mem_of_getElem? (i := 2) rfl)) (ty := .boolean) (by decide) rfl rfl d4_16 rfl fun T4_ h4_ X4_ e4_ W4_ F4_ E4_ => ?_
  have F_globals_4 := F_globals_3.other W4_ (Or.inr (slot_ne (t := .array .int) (t' := .boolean) (Or.inr (hw _ (List.mem_of_getElem? (i := 20) rfl))) (Or.inr (hw _ (List.mem_of_getElem? (i := 24) rfl))) (by decide) (by decide) (by decide)))
  have F_locals_4 := F3_.other W4_ (Or.inr (slot_ne (t := .array .int) (t' := .boolean) (Or.inr (hw _ (List.mem_of_getElem? (i := 22) rfl))) (Or.inr (hw _ (List.mem_of_getElem? (i := 24) rfl))) (by decide) (by decide) (by decide)))
  have F_printed_4 := F_printed_3.other W4_ (Or.inr (slot_ne (t := .object "java/lang/StringBuilder") (t' := .boolean) (Or.inr (hw _ (List.mem_of_getElem? (i := 26) rfl))) (Or.inr (hw _ (List.mem_of_getElem? (i := 24) rfl))) (by decide) (by decide) (by decide)))
  have F_symmetry_4 := F_symmetry_3.other W4_ (Or.inr (slot_ne (t := .object "com/example/anchovy/anchovy/model/Symmetry") (t' := .boolean) (Or.inr (hw _ (List.mem_of_getElem? (i := 28) rfl))) (Or.inr (hw _ (List.mem_of_getElem? (i := 24) rfl))) (by decide) (by decide) (by decide)))
  have F_base_4 := F_base_3.other W4_ (Or.inr (slot_ne (t := .int) (t' := .boolean) (Or.inl (hw _ (List.mem_of_getElem? (i := 30) rfl))) (Or.inr (hw _ (List.mem_of_getElem? (i := 24) rfl))) (by decide) (by decide) (by decide)))
  have K_4 := (K_3).wr W4_ (Or.inl (List.mem_of_getElem? (i := 0) rfl))
  have N_4 := Fr.snoc X4_ N_3 g1
  refine own_aloadN C X4_ d4_19 rfl rfl rfl ?_
  refine own_aload C X4_ d4_20 rfl rfl rfl ?_
  refine own_putF C X4_ (hw _ (List.mem_of_getElem? (i := 25) rfl)) Via.refl e4_ F_printed_4 E4_ (Or.inr ⟨(hw _ (List.mem_of_getElem? (i := 26) rfl)), rfl, hnm⟩) (hw _ (List.mem_of_getElem? (i := 2) rfl)) (ty := .object "java/lang/StringBuilder") (by decide) rfl rfl d4_22 rfl fun T5_ h5_ X5_ e5_ W5_ F5_ E5_ => ?_
  have F_globals_5 := F_globals_4.other W5_ (Or.inr (slot_ne (t := .array .int) (t' := .object "java/lang/StringBuilder") (Or.inr (hw _ (List.mem_of_getElem? (i := 20) rfl))) (Or.inr (hw _ (List.mem_of_getElem? (i := 26) rfl))) (by decide) (by decide) (by decide)))
  have F_locals_5 := F_locals_4.other W5_ (Or.inr (slot_ne (t := .array .int) (t' := .object "java/lang/StringBuilder") (Or.inr (hw _ (List.mem_of_getElem? (i := 22) rfl))) (Or.inr (hw _ (List.mem_of_getElem? (i := 26) rfl))) (by decide) (by decide) (by decide)))
  have F_stateFixed_5 := F4_.other W5_ (Or.inr (slot_ne (t := .boolean) (t' := .object "java/lang/StringBuilder") (Or.inr (hw _ (List.mem_of_getElem? (i := 24) rfl))) (Or.inr (hw _ (List.mem_of_getElem? (i := 26) rfl))) (by decide) (by decide) (by decide)))
  have F_symmetry_5 := F_symmetry_4.other W5_ (Or.inr (slot_ne (t := .object "com/example/anchovy/anchovy/model/Symmetry") (t' := .object "java/lang/StringBuilder") (Or.inr (hw _ (List.mem_of_getElem? (i := 28) rfl))) (Or.inr (hw _ (List.mem_of_getElem? (i := 26) rfl))) (by decide) (by decide) (by decide)))
  have F_base_5 := F_base_4.other W5_ (Or.inr (slot_ne (t := .int) (t' := .object "java/lang/StringBuilder") (Or.inl (hw _ (List.mem_of_getElem? (i := 30) rfl))) (Or.inr (hw _ (List.mem_of_getElem? (i := 26) rfl))) (by decide) (by decide) (by decide)))
  have K_5 := (K_4).wr W5_ (Or.inl (List.mem_of_getElem? (i := 0) rfl))
  have N_5 := Fr.snoc X5_ N_4 g1
  refine own_aloadN C X5_ d4_25 rfl rfl rfl ?_
  refine own_aload C X5_ d4_26 rfl rfl rfl ?_
  refine own_putF C X5_ (hw _ (List.mem_of_getElem? (i := 27) rfl)) Via.refl e5_ F_symmetry_5 E5_ (Or.inr ⟨(hw _ (List.mem_of_getElem? (i := 28) rfl)), rfl, hnm⟩) (hw _ (List.mem_of_getElem? (i := 2) rfl)) (ty := .object "com/example/anchovy/anchovy/model/Symmetry") (by decide) rfl rfl d4_28 rfl fun T6_ h6_ X6_ e6_ W6_ F6_ E6_ => ?_
  have F_globals_6 := F_globals_5.other W6_ (Or.inr (slot_ne (t := .array .int) (t' := .object "com/example/anchovy/anchovy/model/Symmetry") (Or.inr (hw _ (List.mem_of_getElem? (i := 20) rfl))) (Or.inr (hw _ (List.mem_of_getElem? (i := 28) rfl))) (by decide) (by decide) (by decide)))
  have F_locals_6 := F_locals_5.other W6_ (Or.inr (slot_ne (t := .array .int) (t' := .object "com/example/anchovy/anchovy/model/Symmetry") (Or.inr (hw _ (List.mem_of_getElem? (i := 22) rfl))) (Or.inr (hw _ (List.mem_of_getElem? (i := 28) rfl))) (by decide) (by decide) (by decide)))
  have F_stateFixed_6 := F_stateFixed_5.other W6_ (Or.inr (slot_ne (t := .boolean) (t' := .object "com/example/anchovy/anchovy/model/Symmetry") (Or.inr (hw _ (List.mem_of_getElem? (i := 24) rfl))) (Or.inr (hw _ (List.mem_of_getElem? (i := 28) rfl))) (by decide) (by decide) (by decide)))
  have F_printed_6 := F5_.other W6_ (Or.inr (slot_ne (t := .object "java/lang/StringBuilder") (t' := .object "com/example/anchovy/anchovy/model/Symmetry") (Or.inr (hw _ (List.mem_of_getElem? (i := 26) rfl))) (Or.inr (hw _ (List.mem_of_getElem? (i := 28) rfl))) (by decide) (by decide) (by decide)))
  have F_base_6 := F_base_5.other W6_ (Or.inr (slot_ne (t := .int) (t' := .object "com/example/anchovy/anchovy/model/Symmetry") (Or.inl (hw _ (List.mem_of_getElem? (i := 30) rfl))) (Or.inr (hw _ (List.mem_of_getElem? (i := 28) rfl))) (by decide) (by decide) (by decide)))
  have K_6 := (K_5).wr W6_ (Or.inl (List.mem_of_getElem? (i := 0) rfl))
  have N_6 := Fr.snoc X6_ N_5 g1
  subst e6_
  exact own_retV C X6_ Bd.returns Bd.notSynchronized (by decide) (by decide) d4_31 ⟨rfl, N_6, K_6, E6_, F_globals_6, F_locals_6, F_base_6⟩
theorem d3_0 : decode prog_63_method_3_code 0 = .ok (.aload_n 0, 1) := by decide +kernel
theorem d3_1 : decode prog_63_method_3_code 1 = .ok (.aload_n 1, 1) := by decide +kernel
theorem d3_2 : decode prog_63_method_3_code 2 = .ok (.aload_n 2, 1) := by decide +kernel
theorem d3_3 : decode prog_63_method_3_code 3 = .ok (.iload_n 3, 1) := by decide +kernel
theorem d3_4 : decode prog_63_method_3_code 4 = .ok (.aload 4, 2) := by decide +kernel
theorem d3_6 : decode prog_63_method_3_code 6 = .ok (.aconst_null, 1) := by decide +kernel
theorem d3_7 : decode prog_63_method_3_code 7 = .ok (.invokespecial 12, 3) := by decide +kernel
theorem d3_10 : decode prog_63_method_3_code 10 = .ok (.return_, 1) := by decide +kernel
theorem pd_4 : parseMethodDescriptor "([I[IZLjava/lang/StringBuilder;Lcom/example/anchovy/anchovy/model/Symmetry;)V" = some ⟨[.array .int, .array .int, .boolean, .object "java/lang/StringBuilder", .object "com/example/anchovy/anchovy/model/Symmetry"], none⟩ := by decide +kernel
theorem pn_3 : plainName "com/example/anchovy/anchovy/model/Frame" = true := by first | (simp [plainName, overriddenIn]; done) | decide +kernel
def Q3 (Z : State) (a1 : Addr) (g : Addr) (lo : Addr) (h0 : Heap) (n0 : Nat) (v : Option Value) (h : Heap) (L : List Loc) : Prop := v = none ∧ Fr n0 L ∧ Keep h0 h [a1] ∧ Exa Z h a1 "com/example/anchovy/anchovy/model/Frame" ∧ Fld Z h a1 "com/example/anchovy/anchovy/model/Frame" "globals" "[I" (.ref g) ∧ Fld Z h a1 "com/example/anchovy/anchovy/model/Frame" "locals" "[I" (.ref lo) ∧ Fld Z h a1 "com/example/anchovy/anchovy/model/Frame" "base" "I" (.int 0)
theorem ef_3 (m : MethodId) (a1 : Addr) (g : Addr) (lo : Addr) : entryFrame m #[(.ref a1), (.ref g), (.ref lo), (.int 0), (.null)] 5 = mkF m 0 #[.val (.ref a1), .val (.ref g), .val (.ref lo), .val (.int 0), .val (.null)] [] := by first | (simp [entryFrame, mkF, argsToLocals, Value.category]; done) | rfl
set_option maxRecDepth 65536 in
set_option maxHeartbeats 40000000 in
theorem rm3 (l : Launch) (Z : State) (a0 : Array Value) (hw : ∀ d ∈ tables_1, d.before a0 Z = true) (ws : List Jvm.Cond) (a1 : Addr) (g : Addr) (lo : Addr) (h0 : Heap) (n0 : Nat) (Z0 : n0 ≤ h0.size) (E1 : Exa Z h0 a1 "com/example/anchovy/anchovy/model/Frame") (F_globals : Fld Z h0 a1 "com/example/anchovy/anchovy/model/Frame" "globals" "[I" (.null)) (F_locals : Fld Z h0 a1 "com/example/anchovy/anchovy/model/Frame" "locals" "[I" (.null)) (F_stateFixed : Fld Z h0 a1 "com/example/anchovy/anchovy/model/Frame" "stateFixed" "Z" (.int 0)) (F_printed : Fld Z h0 a1 "com/example/anchovy/anchovy/model/Frame" "printed" "Ljava/lang/StringBuilder;" (.null)) (F_symmetry : Fld Z h0 a1 "com/example/anchovy/anchovy/model/Frame" "symmetry" "Lcom/example/anchovy/anchovy/model/Symmetry;" (.null)) (F_base : Fld Z h0 a1 "com/example/anchovy/anchovy/model/Frame" "base" "I" (.int 0)) (g1 : n0 ≤ a1) :
    MetFree l (⟨"com/example/anchovy/anchovy/model/Frame", "<init>", "([I[IZLjava/lang/StringBuilder;)V"⟩ : MethodName) (head1 (Jvm.Cond.code (⟨"com/example/anchovy/anchovy/model/Frame", "<init>", "([I[IZLjava/lang/StringBuilder;)V"⟩ : MethodName) prog_63_method_3_code 5 none :: ws) ({ frames := 2, cells := 0, slots := 0, locals := 29 } : Room)) (fun a U => a = #[(.ref a1), (.ref g), (.ref lo), (.int 0), (.null)] ∧ Z.Warmed39 U.vm ∧ U.heap = h0) (fun _ _ _ _ _ => True) (fun _ U o U' => ∃ v L, o = .returned v ∧ Q3 Z a1 g lo h0 n0 v U'.heap L ∧ FrameEnd U o U' L ({ frames := 2, cells := 0, slots := 0, locals := 29 } : Room).cells ({ frames := 2, cells := 0, slots := 0, locals := 29 } : Room).slots) := by
  refine MetFree.of_bodySF (plainFor_of_name pn_3) hisR ?_
  intro p e s m args below meth c s₁ Bd hml0 hP hK
  obtain ⟨rfl, hZ, hh⟩ := hP
  have hnm := (name_of_methodNamed Bd.named Bd.method).1
  have C : own_C p s m c prog_63_method_3_code "com/example/anchovy/anchovy/model/Frame" Z 5 := ⟨Bd.exec, Bd.bytes, hZ, findClass_of_methodNamed Bd.named, hml0⟩
  have X0 : Stand p l e ({ frames := 2, cells := 0, slots := 0, locals := 29 } : Room) s m #[(.ref a1), (.ref g), (.ref lo), (.int 0), (.null)] below meth c s₁ [] 0 0 := Stand.of_body Bd
  have e0 : s₁.heap = h0 := by rw [← hh, Bd.state]; rfl
  have N0 := Fr.nil n0
  show own_E p e below (own_R s below (Q3 Z a1 g lo h0 n0) ({ frames := 2, cells := 0, slots := 0, locals := 29 } : Room).cells ({ frames := 2, cells := 0, slots := 0, locals := 29 } : Room).slots) s₁ (entryFrame m #[(.ref a1), (.ref g), (.ref lo), (.int 0), (.null)] 5)
  rw [ef_3]
  refine own_aloadN C X0 d3_0 rfl rfl rfl ?_
  refine own_aloadN C X0 d3_1 rfl rfl rfl ?_
  refine own_aloadN C X0 d3_2 rfl rfl rfl ?_
  refine own_iloadN C X0 d3_3 rfl rfl ?_
  refine own_aload C X0 d3_4 rfl rfl rfl ?_
  refine own_aconstNull C X0 d3_6 rfl ?_
  refine own_callI C X0 0 [.ref g, .ref lo, .int 0, .null, .null] (hw _ (List.mem_of_getElem? (i := 13) rfl)) rfl (hw _ (List.mem_of_getElem? (i := 14) rfl)) (hw _ (List.mem_of_getElem? (i := 3) rfl)) (hw _ (List.mem_of_getElem? (i := 15) rfl)) (by decide) e0 (rm4 l Z a0 hw [] a1 g lo h0 n0 Z0 E1 F_globals F_locals F_stateFixed F_printed F_symmetry F_base g1) rfl (by decide) (by decide) rfl (lenOf pd_4 rfl) rfl (Nat.le_of_eq rfl) (by decide) (by decide) d3_7 rfl (fun _ _ _ q => q.1) fun T1_ L1_ X1_ Q1_ => ?_
  obtain ⟨-, N1, K1, A1, B1, B2, B3⟩ := Q1_
  exact own_retV C X1_ Bd.returns Bd.notSynchronized (by decide) (by decide) d3_10 ⟨rfl, Fr.app N0 N1, K1, A1, B1, B2, B3⟩
theorem d2_0 : decode prog_63_method_2_code 0 = .ok (.aload_n 0, 1) := by decide +kernel
theorem d2_1 : decode prog_63_method_2_code 1 = .ok (.aload_n 1, 1) := by decide +kernel
theorem d2_2 : decode prog_63_method_2_code 2 = .ok (.aload_n 2, 1) := by decide +kernel
theorem d2_3 : decode prog_63_method_2_code 3 = .ok (.iload_n 3, 1) := by decide +kernel
theorem d2_4 : decode prog_63_method_2_code 4 = .ok (.aconst_null, 1) := by decide +kernel
theorem d2_5 : decode prog_63_method_2_code 5 = .ok (.invokespecial 9, 3) := by decide +kernel
theorem d2_8 : decode prog_63_method_2_code 8 = .ok (.return_, 1) := by decide +kernel
theorem pd_3 : parseMethodDescriptor "([I[IZLjava/lang/StringBuilder;)V" = some ⟨[.array .int, .array .int, .boolean, .object "java/lang/StringBuilder"], none⟩ := by decide +kernel
theorem pn_2 : plainName "com/example/anchovy/anchovy/model/Frame" = true := by first | (simp [plainName, overriddenIn]; done) | decide +kernel
def Q2 (Z : State) (a1 : Addr) (g : Addr) (lo : Addr) (h0 : Heap) (n0 : Nat) (v : Option Value) (h : Heap) (L : List Loc) : Prop := v = none ∧ Fr n0 L ∧ Keep h0 h [a1] ∧ Exa Z h a1 "com/example/anchovy/anchovy/model/Frame" ∧ Fld Z h a1 "com/example/anchovy/anchovy/model/Frame" "globals" "[I" (.ref g) ∧ Fld Z h a1 "com/example/anchovy/anchovy/model/Frame" "locals" "[I" (.ref lo) ∧ Fld Z h a1 "com/example/anchovy/anchovy/model/Frame" "base" "I" (.int 0)
theorem ef_2 (m : MethodId) (a1 : Addr) (g : Addr) (lo : Addr) : entryFrame m #[(.ref a1), (.ref g), (.ref lo), (.int 0)] 4 = mkF m 0 #[.val (.ref a1), .val (.ref g), .val (.ref lo), .val (.int 0)] [] := by first | (simp [entryFrame, mkF, argsToLocals, Value.category]; done) | rfl
set_option maxRecDepth 65536 in
set_option maxHeartbeats 40000000 in
theorem rm2 (l : Launch) (Z : State) (a0 : Array Value) (hw : ∀ d ∈ tables_1, d.before a0 Z = true) (ws : List Jvm.Cond) (a1 : Addr) (g : Addr) (lo : Addr) (h0 : Heap) (n0 : Nat) (Z0 : n0 ≤ h0.size) (E1 : Exa Z h0 a1 "com/example/anchovy/anchovy/model/Frame") (F_globals : Fld Z h0 a1 "com/example/anchovy/anchovy/model/Frame" "globals" "[I" (.null)) (F_locals : Fld Z h0 a1 "com/example/anchovy/anchovy/model/Frame" "locals" "[I" (.null)) (F_stateFixed : Fld Z h0 a1 "com/example/anchovy/anchovy/model/Frame" "stateFixed" "Z" (.int 0)) (F_printed : Fld Z h0 a1 "com/example/anchovy/anchovy/model/Frame" "printed" "Ljava/lang/StringBuilder;" (.null)) (F_symmetry : Fld Z h0 a1 "com/example/anchovy/anchovy/model/Frame" "symmetry" "Lcom/example/anchovy/anchovy/model/Symmetry;" (.null)) (F_base : Fld Z h0 a1 "com/example/anchovy/anchovy/model/Frame" "base" "I" (.int 0)) (g1 : n0 ≤ a1) :
    MetFree l (⟨"com/example/anchovy/anchovy/model/Frame", "<init>", "([I[IZ)V"⟩ : MethodName) (head1 (Jvm.Cond.code (⟨"com/example/anchovy/anchovy/model/Frame", "<init>", "([I[IZ)V"⟩ : MethodName) prog_63_method_2_code 4 none :: ws) ({ frames := 3, cells := 0, slots := 0, locals := 45 } : Room)) (fun a U => a = #[(.ref a1), (.ref g), (.ref lo), (.int 0)] ∧ Z.Warmed39 U.vm ∧ U.heap = h0) (fun _ _ _ _ _ => True) (fun _ U o U' => ∃ v L, o = .returned v ∧ Q2 Z a1 g lo h0 n0 v U'.heap L ∧ FrameEnd U o U' L ({ frames := 3, cells := 0, slots := 0, locals := 45 } : Room).cells ({ frames := 3, cells := 0, slots := 0, locals := 45 } : Room).slots) := by
  refine MetFree.of_bodySF (plainFor_of_name pn_2) hisR ?_
  intro p e s m args below meth c s₁ Bd hml0 hP hK
  obtain ⟨rfl, hZ, hh⟩ := hP
  have hnm := (name_of_methodNamed Bd.named Bd.method).1
  have C : own_C p s m c prog_63_method_2_code "com/example/anchovy/anchovy/model/Frame" Z 4 := ⟨Bd.exec, Bd.bytes, hZ, findClass_of_methodNamed Bd.named, hml0⟩
  have X0 : Stand p l e ({ frames := 3, cells := 0, slots := 0, locals := 45 } : Room) s m #[(.ref a1), (.ref g), (.ref lo), (.int 0)] below meth c s₁ [] 0 0 := Stand.of_body Bd
  have e0 : s₁.heap = h0 := by rw [← hh, Bd.state]; rfl
  have N0 := Fr.nil n0
  show own_E p e below (own_R s below (Q2 Z a1 g lo h0 n0) ({ frames := 3, cells := 0, slots := 0, locals := 45 } : Room).cells ({ frames := 3, cells := 0, slots := 0, locals := 45 } : Room).slots) s₁ (entryFrame m #[(.ref a1), (.ref g), (.ref lo), (.int 0)] 4)
  rw [ef_2]
  refine own_aloadN C X0 d2_0 rfl rfl rfl ?_
  refine own_aloadN C X0 d2_1 rfl rfl rfl ?_
  refine own_aloadN C X0 d2_2 rfl rfl rfl ?_
  refine own_iloadN C X0 d2_3 rfl rfl ?_
  refine own_aconstNull C X0 d2_4 rfl ?_
  refine own_callI C X0 0 [.ref g, .ref lo, .int 0, .null] (hw _ (List.mem_of_getElem? (i := 10) rfl)) rfl (hw _ (List.mem_of_getElem? (i := 11) rfl)) (hw _ (List.mem_of_getElem? (i := 3) rfl)) (hw _ (List.mem_of_getElem? (i := 12) rfl)) (by decide) e0 (rm3 l Z a0 hw [] a1 g lo h0 n0 Z0 E1 F_globals F_locals F_stateFixed F_printed F_symmetry F_base g1) rfl (by decide) (by decide) rfl (lenOf pd_3 rfl) rfl (Nat.le_of_eq rfl) (by decide) (by decide) d2_5 rfl (fun _ _ _ q => q.1) fun T1_ L1_ X1_ Q1_ => ?_
  obtain ⟨-, N1, K1, A1, B1, B2, B3⟩ := Q1_
  exact own_retV C X1_ Bd.returns Bd.notSynchronized (by decide) (by decide) d2_8 ⟨rfl, Fr.app N0 N1, K1, A1, B1, B2, B3⟩
theorem d1_0 : decode prog_63_method_1_code 0 = .ok (.aload_n 0, 1) := by decide +kernel
theorem d1_1 : decode prog_63_method_1_code 1 = .ok (.aload_n 1, 1) := by decide +kernel
theorem d1_2 : decode prog_63_method_1_code 2 = .ok (.aload_n 2, 1) := by decide +kernel
theorem d1_3 : decode prog_63_method_1_code 3 = .ok (.iconst 0, 1) := by decide +kernel
theorem d1_4 : decode prog_63_method_1_code 4 = .ok (.invokespecial 3, 3) := by decide +kernel
theorem d1_7 : decode prog_63_method_1_code 7 = .ok (.return_, 1) := by decide +kernel
theorem pd_2 : parseMethodDescriptor "([I[IZ)V" = some ⟨[.array .int, .array .int, .boolean], none⟩ := by decide +kernel
theorem pn_1 : plainName "com/example/anchovy/anchovy/model/Frame" = true := by first | (simp [plainName, overriddenIn]; done) | decide +kernel
def Q1 (Z : State) (a1 : Addr) (g : Addr) (lo : Addr) (h0 : Heap) (n0 : Nat) (v : Option Value) (h : Heap) (L : List Loc) : Prop := v = none ∧ Fr n0 L ∧ Keep h0 h [a1] ∧ Exa Z h a1 "com/example/anchovy/anchovy/model/Frame" ∧ Fld Z h a1 "com/example/anchovy/anchovy/model/Frame" "globals" "[I" (.ref g) ∧ Fld Z h a1 "com/example/anchovy/anchovy/model/Frame" "locals" "[I" (.ref lo) ∧ Fld Z h a1 "com/example/anchovy/anchovy/model/Frame" "base" "I" (.int 0)
theorem ef_1 (m : MethodId) (a1 : Addr) (g : Addr) (lo : Addr) : entryFrame m #[(.ref a1), (.ref g), (.ref lo)] 3 = mkF m 0 #[.val (.ref a1), .val (.ref g), .val (.ref lo)] [] := by first | (simp [entryFrame, mkF, argsToLocals, Value.category]; done) | rfl
set_option maxRecDepth 65536 in
set_option maxHeartbeats 40000000 in
theorem rm1 (l : Launch) (Z : State) (a0 : Array Value) (hw : ∀ d ∈ tables_1, d.before a0 Z = true) (ws : List Jvm.Cond) (a1 : Addr) (g : Addr) (lo : Addr) (h0 : Heap) (n0 : Nat) (Z0 : n0 ≤ h0.size) (E1 : Exa Z h0 a1 "com/example/anchovy/anchovy/model/Frame") (F_globals : Fld Z h0 a1 "com/example/anchovy/anchovy/model/Frame" "globals" "[I" (.null)) (F_locals : Fld Z h0 a1 "com/example/anchovy/anchovy/model/Frame" "locals" "[I" (.null)) (F_stateFixed : Fld Z h0 a1 "com/example/anchovy/anchovy/model/Frame" "stateFixed" "Z" (.int 0)) (F_printed : Fld Z h0 a1 "com/example/anchovy/anchovy/model/Frame" "printed" "Ljava/lang/StringBuilder;" (.null)) (F_symmetry : Fld Z h0 a1 "com/example/anchovy/anchovy/model/Frame" "symmetry" "Lcom/example/anchovy/anchovy/model/Symmetry;" (.null)) (F_base : Fld Z h0 a1 "com/example/anchovy/anchovy/model/Frame" "base" "I" (.int 0)) (g1 : n0 ≤ a1) :
    MetFree l (⟨"com/example/anchovy/anchovy/model/Frame", "<init>", "([I[I)V"⟩ : MethodName) (head1 (Jvm.Cond.code (⟨"com/example/anchovy/anchovy/model/Frame", "<init>", "([I[I)V"⟩ : MethodName) prog_63_method_1_code 3 none :: ws) ({ frames := 4, cells := 0, slots := 0, locals := 60 } : Room)) (fun a U => a = #[(.ref a1), (.ref g), (.ref lo)] ∧ Z.Warmed39 U.vm ∧ U.heap = h0) (fun _ _ _ _ _ => True) (fun _ U o U' => ∃ v L, o = .returned v ∧ Q1 Z a1 g lo h0 n0 v U'.heap L ∧ FrameEnd U o U' L ({ frames := 4, cells := 0, slots := 0, locals := 60 } : Room).cells ({ frames := 4, cells := 0, slots := 0, locals := 60 } : Room).slots) := by
  refine MetFree.of_bodySF (plainFor_of_name pn_1) hisR ?_
  intro p e s m args below meth c s₁ Bd hml0 hP hK
  obtain ⟨rfl, hZ, hh⟩ := hP
  have hnm := (name_of_methodNamed Bd.named Bd.method).1
  have C : own_C p s m c prog_63_method_1_code "com/example/anchovy/anchovy/model/Frame" Z 3 := ⟨Bd.exec, Bd.bytes, hZ, findClass_of_methodNamed Bd.named, hml0⟩
  have X0 : Stand p l e ({ frames := 4, cells := 0, slots := 0, locals := 60 } : Room) s m #[(.ref a1), (.ref g), (.ref lo)] below meth c s₁ [] 0 0 := Stand.of_body Bd
  have e0 : s₁.heap = h0 := by rw [← hh, Bd.state]; rfl
  have N0 := Fr.nil n0
  show own_E p e below (own_R s below (Q1 Z a1 g lo h0 n0) ({ frames := 4, cells := 0, slots := 0, locals := 60 } : Room).cells ({ frames := 4, cells := 0, slots := 0, locals := 60 } : Room).slots) s₁ (entryFrame m #[(.ref a1), (.ref g), (.ref lo)] 3)
  rw [ef_1]
  refine own_aloadN C X0 d1_0 rfl rfl rfl ?_
  refine own_aloadN C X0 d1_1 rfl rfl rfl ?_
  refine own_aloadN C X0 d1_2 rfl rfl rfl ?_
  refine own_iconst C X0 (0) d1_3 rfl rfl ?_
  refine own_callI C X0 0 [.ref g, .ref lo, .int 0] (hw _ (List.mem_of_getElem? (i := 7) rfl)) rfl (hw _ (List.mem_of_getElem? (i := 8) rfl)) (hw _ (List.mem_of_getElem? (i := 3) rfl)) (hw _ (List.mem_of_getElem? (i := 9) rfl)) (by decide) e0 (rm2 l Z a0 hw [] a1 g lo h0 n0 Z0 E1 F_globals F_locals F_stateFixed F_printed F_symmetry F_base g1) rfl (by decide) (by decide) rfl (lenOf pd_2 rfl) rfl (Nat.le_of_eq rfl) (by decide) (by decide) d1_4 rfl (fun _ _ _ q => q.1) fun T1_ L1_ X1_ Q1_ => ?_
  obtain ⟨-, N1, K1, A1, B1, B2, B3⟩ := Q1_
  exact own_retV C X1_ Bd.returns Bd.notSynchronized (by decide) (by decide) d1_7 ⟨rfl, Fr.app N0 N1, K1, A1, B1, B2, B3⟩
theorem d7_0 : decode prog_54_method_1_code 0 = .ok (.aload_n 0, 1) := by decide +kernel
theorem d7_1 : decode prog_54_method_1_code 1 = .ok (.invokespecial 1, 3) := by decide +kernel
theorem d7_4 : decode prog_54_method_1_code 4 = .ok (.aload_n 0, 1) := by decide +kernel
theorem d7_5 : decode prog_54_method_1_code 5 = .ok (.aload_n 1, 1) := by decide +kernel
theorem d7_6 : decode prog_54_method_1_code 6 = .ok (.putfield 7, 3) := by decide +kernel
theorem d7_9 : decode prog_54_method_1_code 9 = .ok (.return_, 1) := by decide +kernel
theorem pn_7 : plainName "com/example/anchovy/anchovy/model/Designator" = true := by first | (simp [plainName, overriddenIn]; done) | decide +kernel
def Q7 (Z : State) (a1 : Addr) (h0 : Heap) (n0 : Nat) (v : Option Value) (h : Heap) (L : List Loc) : Prop := v = none ∧ Fr n0 L ∧ Keep h0 h [a1] ∧ Exa Z h a1 "com/example/anchovy/anchovy/model/VariableDesignator" ∧ Fld Z h a1 "com/example/anchovy/anchovy/model/Designator" "type" "Lcom/example/anchovy/anchovy/model/Type;" (.null) ∧ Fld Z h a1 "com/example/anchovy/anchovy/model/VariableDesignator" "name" "Ljava/lang/String;" (.null) ∧ Fld Z h a1 "com/example/anchovy/anchovy/model/VariableDesignator" "local" "Z" (.int 0) ∧ Fld Z h a1 "com/example/anchovy/anchovy/model/VariableDesignator" "slot" "I" (.int 0)
theorem ef_7 (m : MethodId) (a1 : Addr) : entryFrame m #[(.ref a1), (.null)] 2 = mkF m 0 #[.val (.ref a1), .val (.null)] [] := by first | (simp [entryFrame, mkF, argsToLocals, Value.category]; done) | rfl
set_option maxRecDepth 65536 in
set_option maxHeartbeats 40000000 in
theorem rm7 (l : Launch) (Z : State) (a0 : Array Value) (hw : ∀ d ∈ tables_1, d.before a0 Z = true) (ws : List Jvm.Cond) (a1 : Addr) (h0 : Heap) (n0 : Nat) (Z0 : n0 ≤ h0.size) (E1 : Exa Z h0 a1 "com/example/anchovy/anchovy/model/VariableDesignator") (F_type : Fld Z h0 a1 "com/example/anchovy/anchovy/model/Designator" "type" "Lcom/example/anchovy/anchovy/model/Type;" (.null)) (F_name : Fld Z h0 a1 "com/example/anchovy/anchovy/model/VariableDesignator" "name" "Ljava/lang/String;" (.null)) (F_local : Fld Z h0 a1 "com/example/anchovy/anchovy/model/VariableDesignator" "local" "Z" (.int 0)) (F_slot : Fld Z h0 a1 "com/example/anchovy/anchovy/model/VariableDesignator" "slot" "I" (.int 0)) (g1 : n0 ≤ a1) :
    MetFree l (⟨"com/example/anchovy/anchovy/model/Designator", "<init>", "(Lcom/example/anchovy/anchovy/model/Type;)V"⟩ : MethodName) (head1 (Jvm.Cond.code (⟨"com/example/anchovy/anchovy/model/Designator", "<init>", "(Lcom/example/anchovy/anchovy/model/Type;)V"⟩ : MethodName) prog_54_method_1_code 2 none :: ws) ({ frames := 1, cells := 0, slots := 0, locals := 12 } : Room)) (fun a U => a = #[(.ref a1), (.null)] ∧ Z.Warmed39 U.vm ∧ U.heap = h0) (fun _ _ _ _ _ => True) (fun _ U o U' => ∃ v L, o = .returned v ∧ Q7 Z a1 h0 n0 v U'.heap L ∧ FrameEnd U o U' L ({ frames := 1, cells := 0, slots := 0, locals := 12 } : Room).cells ({ frames := 1, cells := 0, slots := 0, locals := 12 } : Room).slots) := by
  refine MetFree.of_bodySF (plainFor_of_name pn_7) hisR ?_
  intro p e s m args below meth c s₁ Bd hml0 hP hK
  obtain ⟨rfl, hZ, hh⟩ := hP
  have hnm := (name_of_methodNamed Bd.named Bd.method).1
  have C : own_C p s m c prog_54_method_1_code "com/example/anchovy/anchovy/model/Designator" Z 2 := ⟨Bd.exec, Bd.bytes, hZ, findClass_of_methodNamed Bd.named, hml0⟩
  have X0 : Stand p l e ({ frames := 1, cells := 0, slots := 0, locals := 12 } : Room) s m #[(.ref a1), (.null)] below meth c s₁ [] 0 0 := Stand.of_body Bd
  have e0 : s₁.heap = h0 := by rw [← hh, Bd.state]; rfl
  have N0 := Fr.nil n0
  show own_E p e below (own_R s below (Q7 Z a1 h0 n0) ({ frames := 1, cells := 0, slots := 0, locals := 12 } : Room).cells ({ frames := 1, cells := 0, slots := 0, locals := 12 } : Room).slots) s₁ (entryFrame m #[(.ref a1), (.null)] 2)
  rw [ef_7]
  refine own_aloadN C X0 d7_0 rfl rfl rfl ?_
  refine own_initO C X0 0 (hw _ (List.mem_of_getElem? (i := 50) rfl)) (hw _ (List.mem_of_getElem? (i := 17) rfl)) (hw _ (List.mem_of_getElem? (i := 18) rfl)) e0 rfl (by decide) (Nat.le_of_eq rfl) (by decide) d7_1 rfl fun T1_ X1_ e1_ => ?_
  refine own_aloadN C X1_ d7_4 rfl rfl rfl ?_
  refine own_aloadN C X1_ d7_5 rfl rfl rfl ?_
  refine own_putF C X1_ (hw _ (List.mem_of_getElem? (i := 51) rfl)) Via.refl e1_ F_type E1 (Or.inr ⟨(hw _ (List.mem_of_getElem? (i := 52) rfl)), rfl, hnm⟩) (hw _ (List.mem_of_getElem? (i := 32) rfl)) (ty := .object "com/example/anchovy/anchovy/model/Type") (by decide) rfl rfl d7_6 rfl fun T2_ h2_ X2_ e2_ W2_ F2_ E2_ => ?_
  have F_name_2 := F_name.other W2_ (Or.inr (slot_ne (t := .object "java/lang/String") (t' := .object "com/example/anchovy/anchovy/model/Type") (Or.inr (hw _ (List.mem_of_getElem? (i := 54) rfl))) (Or.inr (hw _ (List.mem_of_getElem? (i := 52) rfl))) (by decide) (by decide) (by decide)))
  have F_local_2 := F_local.other W2_ (Or.inr (slot_ne (t := .boolean) (t' := .object "com/example/anchovy/anchovy/model/Type") (Or.inr (hw _ (List.mem_of_getElem? (i := 56) rfl))) (Or.inr (hw _ (List.mem_of_getElem? (i := 52) rfl))) (by decide) (by decide) (by decide)))
  have F_slot_2 := F_slot.other W2_ (Or.inr (slot_ne (t := .int) (t' := .object "com/example/anchovy/anchovy/model/Type") (Or.inr (hw _ (List.mem_of_getElem? (i := 58) rfl))) (Or.inr (hw _ (List.mem_of_getElem? (i := 52) rfl))) (by decide) (by decide) (by decide)))
  have K_2 := (Keep.refl h0 [a1]).wr W2_ (Or.inl (List.mem_of_getElem? (i := 0) rfl))
  have N_2 := Fr.snoc X2_ N0 g1
  subst e2_
  exact own_retV C X2_ Bd.returns Bd.notSynchronized (by decide) (by decide) d7_9 ⟨rfl, N_2, K_2, E2_, F2_, F_name_2, F_local_2, F_slot_2⟩
theorem d6_0 : decode prog_112_method_1_code 0 = .ok (.aload_n 0, 1) := by decide +kernel
theorem d6_1 : decode prog_112_method_1_code 1 = .ok (.aload_n 2, 1) := by decide +kernel
theorem d6_2 : decode prog_112_method_1_code 2 = .ok (.invokespecial 1, 3) := by decide +kernel
theorem d6_5 : decode prog_112_method_1_code 5 = .ok (.aload_n 0, 1) := by decide +kernel
theorem d6_6 : decode prog_112_method_1_code 6 = .ok (.aload_n 1, 1) := by decide +kernel
theorem d6_7 : decode prog_112_method_1_code 7 = .ok (.putfield 7, 3) := by decide +kernel
theorem d6_10 : decode prog_112_method_1_code 10 = .ok (.aload_n 0, 1) := by decide +kernel
theorem d6_11 : decode prog_112_method_1_code 11 = .ok (.iload_n 3, 1) := by decide +kernel
theorem d6_12 : decode prog_112_method_1_code 12 = .ok (.putfield 13, 3) := by decide +kernel
theorem d6_15 : decode prog_112_method_1_code 15 = .ok (.aload_n 0, 1) := by decide +kernel
theorem d6_16 : decode prog_112_method_1_code 16 = .ok (.iload 4, 2) := by decide +kernel
theorem d6_18 : decode prog_112_method_1_code 18 = .ok (.putfield 17, 3) := by decide +kernel
theorem d6_21 : decode prog_112_method_1_code 21 = .ok (.return_, 1) := by decide +kernel
theorem pd_7 : parseMethodDescriptor "(Lcom/example/anchovy/anchovy/model/Type;)V" = some ⟨[.object "com/example/anchovy/anchovy/model/Type"], none⟩ := by decide +kernel
theorem pn_6 : plainName "com/example/anchovy/anchovy/model/VariableDesignator" = true := by first | (simp [plainName, overriddenIn]; done) | decide +kernel
def Q6 (Z : State) (a1 : Addr) (st : Addr) (lb : Int32) (sl : Int32) (h0 : Heap) (n0 : Nat) (v : Option Value) (h : Heap) (L : List Loc) : Prop := v = none ∧ Fr n0 L ∧ Keep h0 h [a1] ∧ Exa Z h a1 "com/example/anchovy/anchovy/model/VariableDesignator" ∧ Fld Z h a1 "com/example/anchovy/anchovy/model/VariableDesignator" "local" "Z" (.int lb) ∧ Fld Z h a1 "com/example/anchovy/anchovy/model/VariableDesignator" "slot" "I" (.int sl)
theorem ef_6 (m : MethodId) (a1 : Addr) (st : Addr) (lb : Int32) (sl : Int32) : entryFrame m #[(.ref a1), (.ref st), (.null), (.int lb), (.int sl)] 5 = mkF m 0 #[.val (.ref a1), .val (.ref st), .val (.null), .val (.int lb), .val (.int sl)] [] := by first | (simp [entryFrame, mkF, argsToLocals, Value.category]; done) | rfl
set_option maxRecDepth 65536 in
set_option maxHeartbeats 40000000 in
theorem rm6 (l : Launch) (Z : State) (a0 : Array Value) (hw : ∀ d ∈ tables_1, d.before a0 Z = true) (ws : List Jvm.Cond) (a1 : Addr) (st : Addr) (lb : Int32) (sl : Int32) (h0 : Heap) (n0 : Nat) (Z0 : n0 ≤ h0.size) (E1 : Exa Z h0 a1 "com/example/anchovy/anchovy/model/VariableDesignator") (F_type : Fld Z h0 a1 "com/example/anchovy/anchovy/model/Designator" "type" "Lcom/example/anchovy/anchovy/model/Type;" (.null)) (F_name : Fld Z h0 a1 "com/example/anchovy/anchovy/model/VariableDesignator" "name" "Ljava/lang/String;" (.null)) (F_local : Fld Z h0 a1 "com/example/anchovy/anchovy/model/VariableDesignator" "local" "Z" (.int 0)) (F_slot : Fld Z h0 a1 "com/example/anchovy/anchovy/model/VariableDesignator" "slot" "I" (.int 0)) (g1 : n0 ≤ a1) (hlb : narrow .boolean (.int lb) = .int lb) (hfb : fits .boolean (.int lb) = true) :
    MetFree l (⟨"com/example/anchovy/anchovy/model/VariableDesignator", "<init>", "(Ljava/lang/String;Lcom/example/anchovy/anchovy/model/Type;ZI)V"⟩ : MethodName) (head1 (Jvm.Cond.code (⟨"com/example/anchovy/anchovy/model/VariableDesignator", "<init>", "(Ljava/lang/String;Lcom/example/anchovy/anchovy/model/Type;ZI)V"⟩ : MethodName) prog_112_method_1_code 5 none :: ws) ({ frames := 2, cells := 0, slots := 0, locals := 25 } : Room)) (fun a U => a = #[(.ref a1), (.ref st), (.null), (.int lb), (.int sl)] ∧ Z.Warmed39 U.vm ∧ U.heap = h0) (fun _ _ _ _ _ => True) (fun _ U o U' => ∃ v L, o = .returned v ∧ Q6 Z a1 st lb sl h0 n0 v U'.heap L ∧ FrameEnd U o U' L ({ frames := 2, cells := 0, slots := 0, locals := 25 } : Room).cells ({ frames := 2, cells := 0, slots := 0, locals := 25 } : Room).slots) := by
  refine MetFree.of_bodySF (plainFor_of_name pn_6) hisR ?_
  intro p e s m args below meth c s₁ Bd hml0 hP hK
  obtain ⟨rfl, hZ, hh⟩ := hP
  have hnm := (name_of_methodNamed Bd.named Bd.method).1
  have C : own_C p s m c prog_112_method_1_code "com/example/anchovy/anchovy/model/VariableDesignator" Z 5 := ⟨Bd.exec, Bd.bytes, hZ, findClass_of_methodNamed Bd.named, hml0⟩
  have X0 : Stand p l e ({ frames := 2, cells := 0, slots := 0, locals := 25 } : Room) s m #[(.ref a1), (.ref st), (.null), (.int lb), (.int sl)] below meth c s₁ [] 0 0 := Stand.of_body Bd
  have e0 : s₁.heap = h0 := by rw [← hh, Bd.state]; rfl
  have N0 := Fr.nil n0
  show own_E p e below (own_R s below (Q6 Z a1 st lb sl h0 n0) ({ frames := 2, cells := 0, slots := 0, locals := 25 } : Room).cells ({ frames := 2, cells := 0, slots := 0, locals := 25 } : Room).slots) s₁ (entryFrame m #[(.ref a1), (.ref st), (.null), (.int lb), (.int sl)] 5)
  rw [ef_6]
  refine own_aloadN C X0 d6_0 rfl rfl rfl ?_
  refine own_aloadN C X0 d6_1 rfl rfl rfl ?_
  refine own_callI C X0 0 [.null] (hw _ (List.mem_of_getElem? (i := 45) rfl)) rfl (hw _ (List.mem_of_getElem? (i := 46) rfl)) (hw _ (List.mem_of_getElem? (i := 48) rfl)) (hw _ (List.mem_of_getElem? (i := 49) rfl)) (by decide) e0 (rm7 l Z a0 hw [] a1 h0 n0 Z0 E1 F_type F_name F_local F_slot g1) rfl (by decide) (by decide) rfl (lenOf pd_7 rfl) rfl (Nat.le_of_eq rfl) (by decide) (by decide) d6_2 rfl (fun _ _ _ q => q.1) fun T1_ L1_ X1_ Q1_ => ?_
  obtain ⟨-, N1, K1, A1, G_type, G_name, G_local, G_slot⟩ := Q1_
  have N2 := Fr.app N0 N1
  refine own_aloadN C X1_ d6_5 rfl rfl rfl ?_
  refine own_aloadN C X1_ d6_6 rfl rfl rfl ?_
  refine own_putF C X1_ (hw _ (List.mem_of_getElem? (i := 53) rfl)) Via.refl rfl G_name A1 (Or.inr ⟨(hw _ (List.mem_of_getElem? (i := 54) rfl)), rfl, hnm⟩) (hw _ (List.mem_of_getElem? (i := 32) rfl)) (ty := .object "java/lang/String") (by decide) rfl rfl d6_7 rfl fun T2_ h2_ X2_ e2_ W2_ F2_ E2_ => ?_
  have F_type_2 := G_type.other W2_ (Or.inr (slot_ne (t := .object "com/example/anchovy/anchovy/model/Type") (t' := .object "java/lang/String") (Or.inr (hw _ (List.mem_of_getElem? (i := 52) rfl))) (Or.inr (hw _ (List.mem_of_getElem? (i := 54) rfl))) (by decide) (by decide) (by decide)))
  have F_local_2 := G_local.other W2_ (Or.inr (slot_ne (t := .boolean) (t' := .object "java/lang/String") (Or.inr (hw _ (List.mem_of_getElem? (i := 56) rfl))) (Or.inr (hw _ (List.mem_of_getElem? (i := 54) rfl))) (by decide) (by decide) (by decide)))
  have F_slot_2 := G_slot.other W2_ (Or.inr (slot_ne (t := .int) (t' := .object "java/lang/String") (Or.inr (hw _ (List.mem_of_getElem? (i := 58) rfl))) (Or.inr (hw _ (List.mem_of_getElem? (i := 54) rfl))) (by decide) (by decide) (by decide)))
  have K_2 := K1.wr W2_ (Or.inl (List.mem_of_getElem? (i := 0) rfl))
  have N_2 := Fr.snoc X2_ N2 g1
  refine own_aloadN C X2_ d6_10 rfl rfl rfl ?_
  refine own_iloadN C X2_ d6_11 rfl rfl ?_
  refine own_putF C X2_ (hw _ (List.mem_of_getElem? (i := 55) rfl)) Via.refl e2_ F_local_2 E2_ (Or.inr ⟨(hw _ (List.mem_of_getElem? (i := 56) rfl)), rfl, hnm⟩) (hw _ (List.mem_of_getElem? (i := 32) rfl)) (ty := .boolean) (by decide) hlb hfb d6_12 rfl fun T3_ h3_ X3_ e3_ W3_ F3_ E3_ => ?_
  have F_type_3 := F_type_2.other W3_ (Or.inr (slot_ne (t := .object "com/example/anchovy/anchovy/model/Type") (t' := .boolean) (Or.inr (hw _ (List.mem_of_getElem? (i := 52) rfl))) (Or.inr (hw _ (List.mem_of_getElem? (i := 56) rfl))) (by decide) (by decide) (by decide)))
  have F_name_3 := F2_.other W3_ (Or.inr (slot_ne (t := .object "java/lang/String") (t' := .boolean) (Or.inr (hw _ (List.mem_of_getElem? (i := 54) rfl))) (Or.inr (hw _ (List.mem_of_getElem? (i := 56) rfl))) (by decide) (by decide) (by decide)))
  have F_slot_3 := F_slot_2.other W3_ (Or.inr (slot_ne (t := .int) (t' := .boolean) (Or.inr (hw _ (List.mem_of_getElem? (i := 58) rfl))) (Or.inr (hw _ (List.mem_of_getElem? (i := 56) rfl))) (by decide) (by decide) (by decide)))
  have K_3 := K_2.wr W3_ (Or.inl (List.mem_of_getElem? (i := 0) rfl))
  have N_3 := Fr.snoc X3_ N_2 g1
  refine own_aloadN C X3_ d6_15 rfl rfl rfl ?_
  refine own_iload C X3_ d6_16 rfl rfl ?_
  refine own_putF C X3_ (hw _ (List.mem_of_getElem? (i := 57) rfl)) Via.refl e3_ F_slot_3 E3_ (Or.inr ⟨(hw _ (List.mem_of_getElem? (i := 58) rfl)), rfl, hnm⟩) (hw _ (List.mem_of_getElem? (i := 32) rfl)) (ty := .int) (by decide) rfl rfl d6_18 rfl fun T4_ h4_ X4_ e4_ W4_ F4_ E4_ => ?_
  have F_type_4 := F_type_3.other W4_ (Or.inr (slot_ne (t := .object "com/example/anchovy/anchovy/model/Type") (t' := .int) (Or.inr (hw _ (List.mem_of_getElem? (i := 52) rfl))) (Or.inr (hw _ (List.mem_of_getElem? (i := 58) rfl))) (by decide) (by decide) (by decide)))
  have F_name_4 := F_name_3.other W4_ (Or.inr (slot_ne (t := .object "java/lang/String") (t' := .int) (Or.inr (hw _ (List.mem_of_getElem? (i := 54) rfl))) (Or.inr (hw _ (List.mem_of_getElem? (i := 58) rfl))) (by decide) (by decide) (by decide)))
  have F_local_4 := F3_.other W4_ (Or.inr (slot_ne (t := .boolean) (t' := .int) (Or.inr (hw _ (List.mem_of_getElem? (i := 56) rfl))) (Or.inr (hw _ (List.mem_of_getElem? (i := 58) rfl))) (by decide) (by decide) (by decide)))
  have K_4 := K_3.wr W4_ (Or.inl (List.mem_of_getElem? (i := 0) rfl))
  have N_4 := Fr.snoc X4_ N_3 g1
  subst e4_
  exact own_retV C X4_ Bd.returns Bd.notSynchronized (by decide) (by decide) d6_21 ⟨rfl, N_4, K_4, E4_, F_local_4, F4_⟩
theorem d8_0 : decode prog_112_method_8_code 0 = .ok (.aload_n 0, 1) := by decide +kernel
theorem d8_1 : decode prog_112_method_8_code 1 = .ok (.getfield 13, 3) := by decide +kernel
theorem d8_4 : decode prog_112_method_8_code 4 = .ok (.ifCond .eq 20, 3) := by decide +kernel
theorem d8_7 : decode prog_112_method_8_code 7 = .ok (.aload_n 1, 1) := by decide +kernel
theorem d8_8 : decode prog_112_method_8_code 8 = .ok (.getfield 28, 3) := by decide +kernel
theorem d8_11 : decode prog_112_method_8_code 11 = .ok (.aload_n 1, 1) := by decide +kernel
theorem d8_12 : decode prog_112_method_8_code 12 = .ok (.getfield 37, 3) := by decide +kernel
theorem d8_15 : decode prog_112_method_8_code 15 = .ok (.aload_n 0, 1) := by decide +kernel
theorem d8_16 : decode prog_112_method_8_code 16 = .ok (.getfield 17, 3) := by decide +kernel
theorem d8_19 : decode prog_112_method_8_code 19 = .ok (.iadd, 1) := by decide +kernel
theorem d8_20 : decode prog_112_method_8_code 20 = .ok (.iaload, 1) := by decide +kernel
theorem d8_21 : decode prog_112_method_8_code 21 = .ok (.goto 12, 3) := by decide +kernel
theorem d8_24 : decode prog_112_method_8_code 24 = .ok (.aload_n 1, 1) := by decide +kernel
theorem d8_25 : decode prog_112_method_8_code 25 = .ok (.getfield 34, 3) := by decide +kernel
theorem d8_28 : decode prog_112_method_8_code 28 = .ok (.aload_n 0, 1) := by decide +kernel
theorem d8_29 : decode prog_112_method_8_code 29 = .ok (.getfield 17, 3) := by decide +kernel
theorem d8_32 : decode prog_112_method_8_code 32 = .ok (.iaload, 1) := by decide +kernel
theorem d8_33 : decode prog_112_method_8_code 33 = .ok (.ireturn, 1) := by decide +kernel
theorem pn_8 : plainName "com/example/anchovy/anchovy/model/VariableDesignator" = true := by first | (simp [plainName, overriddenIn]; done) | decide +kernel
def Q8 (Z : State) (a1 : Addr) (fr : Addr) (ar : Addr) (cl : Cell) (b : Int32) (sl : Int32) (u : Int32) (h0 : Heap) (n0 : Nat) (v : Option Value) (h : Heap) (L : List Loc) : Prop := v = some (.int u) ∧ Fr n0 L ∧ h = h0
theorem ef_8 (m : MethodId) (a1 : Addr) (fr : Addr) : entryFrame m #[(.ref a1), (.ref fr)] 2 = mkF m 0 #[.val (.ref a1), .val (.ref fr)] [] := by first | (simp [entryFrame, mkF, argsToLocals, Value.category]; done) | rfl
set_option maxRecDepth 65536 in
set_option maxHeartbeats 40000000 in
theorem rm8 (l : Launch) (Z : State) (a0 : Array Value) (hw : ∀ d ∈ tables_1, d.before a0 Z = true) (ws : List Jvm.Cond) (a1 : Addr) (fr : Addr) (ar : Addr) (cl : Cell) (b : Int32) (sl : Int32) (u : Int32) (h0 : Heap) (n0 : Nat) (Z0 : n0 ≤ h0.size) (F1 : Fld Z h0 a1 "com/example/anchovy/anchovy/model/VariableDesignator" "local" "Z" (.int 1)) (F2 : Fld Z h0 a1 "com/example/anchovy/anchovy/model/VariableDesignator" "slot" "I" (.int sl)) (F3 : Fld Z h0 fr "com/example/anchovy/anchovy/model/Frame" "locals" "[I" (.ref ar)) (F4 : Fld Z h0 fr "com/example/anchovy/anchovy/model/Frame" "base" "I" (.int b)) (A : Arr Z h0 ar cl .int) (hj : ¬ ((b + sl) < 0 ∨ cl.slots.size ≤ (b + sl).toNatClampNeg)) (hv : cl.slots[(b + sl).toNatClampNeg]? = some (.int u)) :
    MetFree l (⟨"com/example/anchovy/anchovy/model/VariableDesignator", "get", "(Lcom/example/anchovy/anchovy/model/Frame;)I"⟩ : MethodName) (head1 (Jvm.Cond.code (⟨"com/example/anchovy/anchovy/model/VariableDesignator", "get", "(Lcom/example/anchovy/anchovy/model/Frame;)I"⟩ : MethodName) prog_112_method_8_code 2 (some .int) :: ws) ({ frames := 0, cells := 0, slots := 0, locals := 0 } : Room)) (fun a U => a = #[(.ref a1), (.ref fr)] ∧ Z.Warmed39 U.vm ∧ U.heap = h0) (fun _ _ _ _ _ => True) (fun _ U o U' => ∃ v L, o = .returned v ∧ Q8 Z a1 fr ar cl b sl u h0 n0 v U'.heap L ∧ FrameEnd U o U' L ({ frames := 0, cells := 0, slots := 0, locals := 0 } : Room).cells ({ frames := 0, cells := 0, slots := 0, locals := 0 } : Room).slots) := by
  refine MetFree.of_bodySF (plainFor_of_name pn_8) hisR ?_
  intro p e s m args below meth c s₁ Bd hml0 hP hK
  obtain ⟨rfl, hZ, hh⟩ := hP
  have hnm := (name_of_methodNamed Bd.named Bd.method).1
  have C : own_C p s m c prog_112_method_8_code "com/example/anchovy/anchovy/model/VariableDesignator" Z 2 := ⟨Bd.exec, Bd.bytes, hZ, findClass_of_methodNamed Bd.named, hml0⟩
  have X0 : Stand p l e ({ frames := 0, cells := 0, slots := 0, locals := 0 } : Room) s m #[(.ref a1), (.ref fr)] below meth c s₁ [] 0 0 := Stand.of_body Bd
  have e0 : s₁.heap = h0 := by rw [← hh, Bd.state]; rfl
  have N0 := Fr.nil n0
  show own_E p e below (own_R s below (Q8 Z a1 fr ar cl b sl u h0 n0) ({ frames := 0, cells := 0, slots := 0, locals := 0 } : Room).cells ({ frames := 0, cells := 0, slots := 0, locals := 0 } : Room).slots) s₁ (entryFrame m #[(.ref a1), (.ref fr)] 2)
  rw [ef_8]
  refine own_aloadN C X0 d8_0 rfl rfl rfl ?_
  refine own_getF C X0 (hw _ (List.mem_of_getElem? (i := 55) rfl)) Via.refl e0 F1 d8_1 rfl fun T1_ X1_ e1_ => ?_
  refine own_ifN C X1_ d8_4 ((if0 _ _).trans (feq (show ¬ (1 : Int32) = 0 by decide)).1) rfl ?_
  refine own_aloadN C X1_ d8_7 rfl rfl rfl ?_
  refine own_getF C X1_ (hw _ (List.mem_of_getElem? (i := 64) rfl)) Via.refl e1_ F3 d8_8 rfl fun T2_ X2_ e2_ => ?_
  refine own_aloadN C X2_ d8_11 rfl rfl rfl ?_
  refine own_getF C X2_ (hw _ (List.mem_of_getElem? (i := 65) rfl)) Via.refl e2_ F4 d8_12 rfl fun T3_ X3_ e3_ => ?_
  refine own_aloadN C X3_ d8_15 rfl rfl rfl ?_
  refine own_getF C X3_ (hw _ (List.mem_of_getElem? (i := 57) rfl)) Via.refl e3_ F2 d8_16 rfl fun T4_ X4_ e4_ => ?_
  refine own_iadd C X4_ d8_19 rfl ?_
  refine own_iaload C X4_ e4_ A hj hv d8_20 rfl ?_
  refine own_goto (pc' := 33) C X4_ d8_21 (by decide) (by decide) ?_
  have ee := e4_
  exact own_retI C X4_ Bd.returns Bd.notSynchronized (by decide) (by decide) d8_33 ⟨rfl, N0, ee⟩
theorem pn_9 : plainName "com/example/anchovy/anchovy/model/VariableDesignator" = true := by first | (simp [plainName, overriddenIn]; done) | decide +kernel
def Q9 (Z : State) (a1 : Addr) (fr : Addr) (ar : Addr) (cl : Cell) (b : Int32) (sl : Int32) (u : Int32) (h0 : Heap) (n0 : Nat) (v : Option Value) (h : Heap) (L : List Loc) : Prop := v = some (.int u) ∧ Fr n0 L ∧ h = h0
theorem ef_9 (m : MethodId) (a1 : Addr) (fr : Addr) : entryFrame m #[(.ref a1), (.ref fr)] 2 = mkF m 0 #[.val (.ref a1), .val (.ref fr)] [] := by first | (simp [entryFrame, mkF, argsToLocals, Value.category]; done) | rfl
set_option maxRecDepth 65536 in
set_option maxHeartbeats 40000000 in
theorem rm9 (l : Launch) (Z : State) (a0 : Array Value) (hw : ∀ d ∈ tables_1, d.before a0 Z = true) (ws : List Jvm.Cond) (a1 : Addr) (fr : Addr) (ar : Addr) (cl : Cell) (b : Int32) (sl : Int32) (u : Int32) (h0 : Heap) (n0 : Nat) (Z0 : n0 ≤ h0.size) (F1 : Fld Z h0 a1 "com/example/anchovy/anchovy/model/VariableDesignator" "local" "Z" (.int 0)) (F2 : Fld Z h0 a1 "com/example/anchovy/anchovy/model/VariableDesignator" "slot" "I" (.int sl)) (F3 : Fld Z h0 fr "com/example/anchovy/anchovy/model/Frame" "globals" "[I" (.ref ar)) (F4 : Fld Z h0 fr "com/example/anchovy/anchovy/model/Frame" "base" "I" (.int b)) (A : Arr Z h0 ar cl .int) (hj : ¬ (sl < 0 ∨ cl.slots.size ≤ sl.toNatClampNeg)) (hv : cl.slots[sl.toNatClampNeg]? = some (.int u)) :
    MetFree l (⟨"com/example/anchovy/anchovy/model/VariableDesignator", "get", "(Lcom/example/anchovy/anchovy/model/Frame;)I"⟩ : MethodName) (head1 (Jvm.Cond.code (⟨"com/example/anchovy/anchovy/model/VariableDesignator", "get", "(Lcom/example/anchovy/anchovy/model/Frame;)I"⟩ : MethodName) prog_112_method_8_code 2 (some .int) :: ws) ({ frames := 0, cells := 0, slots := 0, locals := 0 } : Room)) (fun a U => a = #[(.ref a1), (.ref fr)] ∧ Z.Warmed39 U.vm ∧ U.heap = h0) (fun _ _ _ _ _ => True) (fun _ U o U' => ∃ v L, o = .returned v ∧ Q9 Z a1 fr ar cl b sl u h0 n0 v U'.heap L ∧ FrameEnd U o U' L ({ frames := 0, cells := 0, slots := 0, locals := 0 } : Room).cells ({ frames := 0, cells := 0, slots := 0, locals := 0 } : Room).slots) := by
  refine MetFree.of_bodySF (plainFor_of_name pn_9) hisR ?_
  intro p e s m args below meth c s₁ Bd hml0 hP hK
  obtain ⟨rfl, hZ, hh⟩ := hP
  have hnm := (name_of_methodNamed Bd.named Bd.method).1
  have C : own_C p s m c prog_112_method_8_code "com/example/anchovy/anchovy/model/VariableDesignator" Z 2 := ⟨Bd.exec, Bd.bytes, hZ, findClass_of_methodNamed Bd.named, hml0⟩
  have X0 : Stand p l e ({ frames := 0, cells := 0, slots := 0, locals := 0 } : Room) s m #[(.ref a1), (.ref fr)] below meth c s₁ [] 0 0 := Stand.of_body Bd
  have e0 : s₁.heap = h0 := by rw [← hh, Bd.state]; rfl
  have N0 := Fr.nil n0
  show own_E p e below (own_R s below (Q9 Z a1 fr ar cl b sl u h0 n0) ({ frames := 0, cells := 0, slots := 0, locals := 0 } : Room).cells ({ frames := 0, cells := 0, slots := 0, locals := 0 } : Room).slots) s₁ (entryFrame m #[(.ref a1), (.ref fr)] 2)
  rw [ef_9]
  refine own_aloadN C X0 d8_0 rfl rfl rfl ?_
  refine own_getF C X0 (hw _ (List.mem_of_getElem? (i := 55) rfl)) Via.refl e0 F1 d8_1 rfl fun T1_ X1_ e1_ => ?_
  refine own_ifY (pc' := 24) C X1_ d8_4 ((if0 _ _).trans (teq rfl).1) (by decide) (by decide) ?_
  refine own_aloadN C X1_ d8_24 rfl rfl rfl ?_
  refine own_getF C X1_ (hw _ (List.mem_of_getElem? (i := 66) rfl)) Via.refl e1_ F3 d8_25 rfl fun T2_ X2_ e2_ => ?_
  refine own_aloadN C X2_ d8_28 rfl rfl rfl ?_
  refine own_getF C X2_ (hw _ (List.mem_of_getElem? (i := 57) rfl)) Via.refl e2_ F2 d8_29 rfl fun T3_ X3_ e3_ => ?_
  refine own_iaload C X3_ e3_ A hj hv d8_32 rfl ?_
  have ee := e3_
  exact own_retI C X3_ Bd.returns Bd.notSynchronized (by decide) (by decide) d8_33 ⟨rfl, N0, ee⟩
theorem pd_1 : parseMethodDescriptor "([I[I)V" = some ⟨[.array .int, .array .int], none⟩ := by decide +kernel
theorem pd_6 : parseMethodDescriptor "(Ljava/lang/String;Lcom/example/anchovy/anchovy/model/Type;ZI)V" = some ⟨[.object "java/lang/String", .object "com/example/anchovy/anchovy/model/Type", .boolean, .int], none⟩ := by decide +kernel
theorem pd_8 : parseMethodDescriptor "(Lcom/example/anchovy/anchovy/model/Frame;)I" = some ⟨[.object "com/example/anchovy/anchovy/model/Frame"], some .int⟩ := by decide +kernel
theorem own_m7 (x : Int32) : 0 ≤ (x &&& 7).toInt ∧ (x &&& 7).toInt < 8 := by
  have h : (x &&& 7).toInt = x.toInt % 2 ^ 3 := Jvm.Kit.i32_mask x 7 (k := 3) (by decide) (by decide)
  omega
theorem own_m3 (x : Int32) : 0 ≤ (x &&& 3).toInt ∧ (x &&& 3).toInt < 4 := by
  have h : (x &&& 3).toInt = x.toInt % 2 ^ 2 := Jvm.Kit.i32_mask x 3 (k := 2) (by decide) (by decide)
  omega
theorem own_bs (b t : Int32) : b + (t - b) = t := by
  rw [Int32.add_comm, Int32.sub_add_cancel]
theorem own_nz {t : Int32} (h : 0 ≤ t.toInt ∧ t.toInt < 8) : t + 1 ≠ 0 := fun q => by
  have h1 : (t + 1).toInt = t.toInt + 1 := Jvm.Kit.i32_add (by show _ ≤ t.toInt + 1; omega) (by show t.toInt + 1 < _; omega)
  rw [q] at h1
  have z : (0 : Int32).toInt = 0 := rfl
  omega
theorem own_hit {t v : Int32} {cl : Cell} {n : Nat} (S : cl.slots.size = n) (h0 : 0 ≤ t.toInt) (h1 : t.toInt < n) : (cl.setSlot t.toNatClampNeg (.int v)).slots[t.toNatClampNeg]? = some (.int v) := by
  have : t.toNatClampNeg < cl.slots.size := by rw [S]; simp only [Int32.toNatClampNeg]; omega
  rw [own_set this, if_pos rfl]
theorem own_wS {Z : State} {a0 : Array Value} (hw : ∀ d ∈ tables_1, d.before a0 Z = true) : ∀ a ∈ Bundle.stringAtoms, a.before a0 Z = true := by
  intro a ha
  simp only [Bundle.stringAtoms, List.mem_cons, List.not_mem_nil, or_false] at ha
  rcases ha with rfl | rfl | rfl | rfl | rfl | rfl | rfl
  · exact (hw _ (List.mem_of_getElem? (i := 35) rfl))
  · exact (hw _ (List.mem_of_getElem? (i := 36) rfl))
  · exact (hw _ (List.mem_of_getElem? (i := 37) rfl))
  · exact (hw _ (List.mem_of_getElem? (i := 38) rfl))
  · exact (hw _ (List.mem_of_getElem? (i := 39) rfl))
  · exact (hw _ (List.mem_of_getElem? (i := 40) rfl))
  · exact (hw _ (List.mem_of_getElem? (i := 41) rfl))
theorem pn_0 : plainName "com/example/anchovy/anchovy/model/VariableDesignatorGetPinLaw" = true := by first | (simp [plainName, overriddenIn]; done) | decide +kernel
def Q0 (Z : State) (i0 : Int32) (i1 : Int32) (i2 : Int32) (i3 : Int32) (h0 : Heap) (n0 : Nat) (v : Option Value) (h : Heap) (L : List Loc) : Prop := v = some (.int 1) ∧ Fr n0 L
theorem ef_0 (m : MethodId) (i0 : Int32) (i1 : Int32) (i2 : Int32) (i3 : Int32) : entryFrame m #[(.int i0), (.int i1), (.int i2), (.int i3)] maxLocals = mkF m 0 #[.val (.int i0), .val (.int i1), .val (.int i2), .val (.int i3), .unset, .unset, .unset, .unset, .unset, .unset, .unset, .unset] [] := by first | (simp [entryFrame, mkF, argsToLocals, Value.category, maxLocals]; done) | rfl
set_option maxRecDepth 65536 in
set_option maxHeartbeats 40000000 in
theorem rm0 (l : Launch) (Z : State) (a0 : Array Value) (hw : ∀ d ∈ tables_1, d.before a0 Z = true) (ws : List Jvm.Cond) (i0 : Int32) (i1 : Int32) (i2 : Int32) (i3 : Int32) (h0 : Heap) (n0 : Nat) (Z0 : n0 ≤ h0.size)  :
    MetFree l x (head1 (Jvm.Cond.code x code maxLocals ret :: ws) room_1) (fun a U => a = #[(.int i0), (.int i1), (.int i2), (.int i3)] ∧ Z.Warmed39 U.vm ∧ U.heap = h0) (fun _ _ _ _ _ => True) (fun _ U o U' => ∃ v L, o = .returned v ∧ Q0 Z i0 i1 i2 i3 h0 n0 v U'.heap L ∧ ReturnedEndW U o U' L 24 1152) := by
  refine MetFree.of_bodySF (plainFor_of_name pn_0) hisR ?_
  intro p e s m args below meth c s₁ Bd hml0 hP hK
  obtain ⟨rfl, hZ, hh⟩ := hP
  have hnm := (name_of_methodNamed Bd.named Bd.method).1
  have C : own_C p s m c code "com/example/anchovy/anchovy/model/VariableDesignatorGetPinLaw" Z 12 := ⟨Bd.exec, Bd.bytes, hZ, findClass_of_methodNamed Bd.named, hml0⟩
  have X0 : Stand p l e room_1 s m #[(.int i0), (.int i1), (.int i2), (.int i3)] below meth c s₁ [] 0 0 := Stand.of_body Bd
  have e0 : s₁.heap = h0 := by rw [← hh, Bd.state]; rfl
  have N0 := Fr.nil n0
  show own_E p e below (own_RW s below (Q0 Z i0 i1 i2 i3 h0 n0) 24 1152) s₁ (entryFrame m #[(.int i0), (.int i1), (.int i2), (.int i3)] maxLocals)
  rw [ef_0]
  refine own_iloadN C X0 at_0 rfl rfl ?_
  refine own_iconst C X0 (1) at_1 rfl rfl ?_
  refine own_iand C X0 at_2 rfl ?_
  by_cases b3 : i1 &&& 1 = 0
  · refine own_ifY (pc' := 10) C X0 at_3 ((if0 _ _).trans (teq b3).1) (by decide) (by decide) ?_
    refine own_iconst C X0 (0) at_10 rfl rfl ?_
    refine own_istore (L' := #[_, _, _, _, _, _, _, _, _, _, _, _]) C X0 at_11 rfl rfl ?_
    refine own_iconst C X0 (4) at_13 rfl rfl ?_
    refine own_newP C X0 4 (hw _ (List.mem_of_getElem? (i := 0) rfl)) e0 (by decide) (by decide) (by decide) (by decide) (by decide) at_14 rfl fun T1_ h1_ a1_ k1_ X1_ e1_ g1_ E1_ A1_ => ?_
    have SG : (newA k1_ (newarray.typeOf .int) 4).slots.size = 4 := sz_new _ _ _
    generalize newA k1_ (newarray.typeOf .int) 4 = cg0 at *
    have gg : n0 ≤ a1_ := by rw [g1_]; exact Z0
    have z0 := Nat.le_trans Z0 E1_.1
    refine own_dup C X1_ at_16 rfl rfl ?_
    refine own_iconst C X1_ (0) at_17 rfl rfl ?_
    refine own_iloadN C X1_ at_18 rfl rfl ?_
    refine own_iconst C X1_ (1) at_19 rfl rfl ?_
    refine own_iadd C X1_ at_20 rfl ?_
    refine own_iastore C X1_ e1_ A1_ (own_idx SG (by decide) (by decide)) at_21 rfl fun T2_ h2_ X2_ e2_ W2_ A2_ => ?_
    have N1 := Fr.snoc X2_ N0 gg
    have z1 := Nat.le_trans z0 (Nat.le_of_eq W2_.size.symm)
    obtain ⟨cg1, SG1, AG1⟩ : ∃ q : Cell, q.slots.size = 4 ∧ Arr Z h2_ a1_ q .int := ⟨_, own_setS SG, A2_⟩
    refine own_dup C X2_ at_22 rfl rfl ?_
    refine own_iconst C X2_ (1) at_23 rfl rfl ?_
    refine own_iloadN C X2_ at_24 rfl rfl ?_
    refine own_iconst C X2_ (2) at_25 rfl rfl ?_
    refine own_iadd C X2_ at_26 rfl ?_
    refine own_iastore C X2_ e2_ AG1 (own_idx SG1 (by decide) (by decide)) at_27 rfl fun T3_ h3_ X3_ e3_ W3_ A3_ => ?_
    have N2 := Fr.snoc X3_ N1 gg
    have z2 := Nat.le_trans z1 (Nat.le_of_eq W3_.size.symm)
    obtain ⟨cg2, SG2, AG2⟩ : ∃ q : Cell, q.slots.size = 4 ∧ Arr Z h3_ a1_ q .int := ⟨_, own_setS SG1, A3_⟩
    refine own_dup C X3_ at_28 rfl rfl ?_
    refine own_iconst C X3_ (2) at_29 rfl rfl ?_
    refine own_iloadN C X3_ at_30 rfl rfl ?_
    refine own_iconst C X3_ (3) at_31 rfl rfl ?_
    refine own_iadd C X3_ at_32 rfl ?_
    refine own_iastore C X3_ e3_ AG2 (own_idx SG2 (by decide) (by decide)) at_33 rfl fun T4_ h4_ X4_ e4_ W4_ A4_ => ?_
    have N3 := Fr.snoc X4_ N2 gg
    have z3 := Nat.le_trans z2 (Nat.le_of_eq W4_.size.symm)
    obtain ⟨cg3, SG3, AG3⟩ : ∃ q : Cell, q.slots.size = 4 ∧ Arr Z h4_ a1_ q .int := ⟨_, own_setS SG2, A4_⟩
    refine own_dup C X4_ at_34 rfl rfl ?_
    refine own_iconst C X4_ (3) at_35 rfl rfl ?_
    refine own_iloadN C X4_ at_36 rfl rfl ?_
    refine own_iconst C X4_ (4) at_37 rfl rfl ?_
    refine own_iadd C X4_ at_38 rfl ?_
    refine own_iastore C X4_ e4_ AG3 (own_idx SG3 (by decide) (by decide)) at_39 rfl fun T5_ h5_ X5_ e5_ W5_ A5_ => ?_
    have N4 := Fr.snoc X5_ N3 gg
    have z4 := Nat.le_trans z3 (Nat.le_of_eq W5_.size.symm)
    obtain ⟨cg4, SG4, AG4⟩ : ∃ q : Cell, q.slots.size = 4 ∧ Arr Z h5_ a1_ q .int := ⟨_, own_setS SG3, A5_⟩
    refine own_astore (L' := #[_, _, _, _, _, _, _, _, _, _, _, _]) C X5_ at_40 rfl rfl rfl ?_
    refine own_bipush C X5_ (8) at_42 rfl rfl ?_
    refine own_newP C X5_ 8 (hw _ (List.mem_of_getElem? (i := 0) rfl)) e5_ (by decide) (by decide) (by decide) (by decide) (by decide) at_44 rfl fun T6_ h6_ a6_ k6_ X6_ e6_ g6_ E6_ A6_ => ?_
    have SL : (newA k6_ (newarray.typeOf .int) 8).slots.size = 8 := sz_new _ _ _
    generalize newA k6_ (newarray.typeOf .int) 8 = cl0 at *
    have gl : n0 ≤ a6_ := by rw [g6_]; exact z4
    have nl : a1_ ≠ a6_ := own_ne AG4.lt g6_
    have y0 := Nat.le_trans z4 E6_.1
    have AH0 := AG4.ext E6_
    refine own_dup C X6_ at_46 rfl rfl ?_
    refine own_iconst C X6_ (0) at_47 rfl rfl ?_
    refine own_iloadN C X6_ at_48 rfl rfl ?_
    refine own_iconst C X6_ (5) at_49 rfl rfl ?_
    refine own_iadd C X6_ at_50 rfl ?_
    refine own_iastore C X6_ e6_ A6_ (own_idx SL (by decide) (by decide)) at_51 rfl fun T7_ h7_ X7_ e7_ W7_ A7_ => ?_
    have N5 := Fr.snoc X7_ N4 gl
    have z5 := Nat.le_trans y0 (Nat.le_of_eq W7_.size.symm)
    have AH1 := AH0.other W7_ nl
    obtain ⟨cl1, SL1, AL1⟩ : ∃ q : Cell, q.slots.size = 8 ∧ Arr Z h7_ a6_ q .int := ⟨_, own_setS SL, A7_⟩
    refine own_dup C X7_ at_52 rfl rfl ?_
    refine own_iconst C X7_ (1) at_53 rfl rfl ?_
    refine own_iloadN C X7_ at_54 rfl rfl ?_
    refine own_bipush C X7_ (6) at_55 rfl rfl ?_
    refine own_iadd C X7_ at_57 rfl ?_
    refine own_iastore C X7_ e7_ AL1 (own_idx SL1 (by decide) (by decide)) at_58 rfl fun T8_ h8_ X8_ e8_ W8_ A8_ => ?_
    have N6 := Fr.snoc X8_ N5 gl
    have z6 := Nat.le_trans z5 (Nat.le_of_eq W8_.size.symm)
    have AH2 := AH1.other W8_ nl
    obtain ⟨cl2, SL2, AL2⟩ : ∃ q : Cell, q.slots.size = 8 ∧ Arr Z h8_ a6_ q .int := ⟨_, own_setS SL1, A8_⟩
    refine own_dup C X8_ at_59 rfl rfl ?_
    refine own_iconst C X8_ (2) at_60 rfl rfl ?_
    refine own_iloadN C X8_ at_61 rfl rfl ?_
    refine own_bipush C X8_ (7) at_62 rfl rfl ?_
    refine own_iadd C X8_ at_64 rfl ?_
    refine own_iastore C X8_ e8_ AL2 (own_idx SL2 (by decide) (by decide)) at_65 rfl fun T9_ h9_ X9_ e9_ W9_ A9_ => ?_
    have N7 := Fr.snoc X9_ N6 gl
    have z7 := Nat.le_trans z6 (Nat.le_of_eq W9_.size.symm)
    have AH3 := AH2.other W9_ nl
    obtain ⟨cl3, SL3, AL3⟩ : ∃ q : Cell, q.slots.size = 8 ∧ Arr Z h9_ a6_ q .int := ⟨_, own_setS SL2, A9_⟩
    refine own_dup C X9_ at_66 rfl rfl ?_
    refine own_iconst C X9_ (3) at_67 rfl rfl ?_
    refine own_iloadN C X9_ at_68 rfl rfl ?_
    refine own_bipush C X9_ (8) at_69 rfl rfl ?_
    refine own_iadd C X9_ at_71 rfl ?_
    refine own_iastore C X9_ e9_ AL3 (own_idx SL3 (by decide) (by decide)) at_72 rfl fun T10_ h10_ X10_ e10_ W10_ A10_ => ?_
    have N8 := Fr.snoc X10_ N7 gl
    have z8 := Nat.le_trans z7 (Nat.le_of_eq W10_.size.symm)
    have AH4 := AH3.other W10_ nl
    obtain ⟨cl4, SL4, AL4⟩ : ∃ q : Cell, q.slots.size = 8 ∧ Arr Z h10_ a6_ q .int := ⟨_, own_setS SL3, A10_⟩
    refine own_dup C X10_ at_73 rfl rfl ?_
    refine own_iconst C X10_ (4) at_74 rfl rfl ?_
    refine own_iloadN C X10_ at_75 rfl rfl ?_
    refine own_bipush C X10_ (9) at_76 rfl rfl ?_
    refine own_iadd C X10_ at_78 rfl ?_
    refine own_iastore C X10_ e10_ AL4 (own_idx SL4 (by decide) (by decide)) at_79 rfl fun T11_ h11_ X11_ e11_ W11_ A11_ => ?_
    have N9 := Fr.snoc X11_ N8 gl
    have z9 := Nat.le_trans z8 (Nat.le_of_eq W11_.size.symm)
    have AH5 := AH4.other W11_ nl
    obtain ⟨cl5, SL5, AL5⟩ : ∃ q : Cell, q.slots.size = 8 ∧ Arr Z h11_ a6_ q .int := ⟨_, own_setS SL4, A11_⟩
    refine own_dup C X11_ at_80 rfl rfl ?_
    refine own_iconst C X11_ (5) at_81 rfl rfl ?_
    refine own_iloadN C X11_ at_82 rfl rfl ?_
    refine own_bipush C X11_ (10) at_83 rfl rfl ?_
    refine own_iadd C X11_ at_85 rfl ?_
    refine own_iastore C X11_ e11_ AL5 (own_idx SL5 (by decide) (by decide)) at_86 rfl fun T12_ h12_ X12_ e12_ W12_ A12_ => ?_
    have N10 := Fr.snoc X12_ N9 gl
    have z10 := Nat.le_trans z9 (Nat.le_of_eq W12_.size.symm)
    have AH6 := AH5.other W12_ nl
    obtain ⟨cl6, SL6, AL6⟩ : ∃ q : Cell, q.slots.size = 8 ∧ Arr Z h12_ a6_ q .int := ⟨_, own_setS SL5, A12_⟩
    refine own_dup C X12_ at_87 rfl rfl ?_
    refine own_bipush C X12_ (6) at_88 rfl rfl ?_
    refine own_iloadN C X12_ at_90 rfl rfl ?_
    refine own_bipush C X12_ (11) at_91 rfl rfl ?_
    refine own_iadd C X12_ at_93 rfl ?_
    refine own_iastore C X12_ e12_ AL6 (own_idx SL6 (by decide) (by decide)) at_94 rfl fun T13_ h13_ X13_ e13_ W13_ A13_ => ?_
    have N11 := Fr.snoc X13_ N10 gl
    have z11 := Nat.le_trans z10 (Nat.le_of_eq W13_.size.symm)
    have AH7 := AH6.other W13_ nl
    obtain ⟨cl7, SL7, AL7⟩ : ∃ q : Cell, q.slots.size = 8 ∧ Arr Z h13_ a6_ q .int := ⟨_, own_setS SL6, A13_⟩
    refine own_dup C X13_ at_95 rfl rfl ?_
    refine own_bipush C X13_ (7) at_96 rfl rfl ?_
    refine own_iloadN C X13_ at_98 rfl rfl ?_
    refine own_bipush C X13_ (12) at_99 rfl rfl ?_
    refine own_iadd C X13_ at_101 rfl ?_
    refine own_iastore C X13_ e13_ AL7 (own_idx SL7 (by decide) (by decide)) at_102 rfl fun T14_ h14_ X14_ e14_ W14_ A14_ => ?_
    have N12 := Fr.snoc X14_ N11 gl
    have z12 := Nat.le_trans z11 (Nat.le_of_eq W14_.size.symm)
    have AH8 := AH7.other W14_ nl
    obtain ⟨cl8, SL8, AL8⟩ : ∃ q : Cell, q.slots.size = 8 ∧ Arr Z h14_ a6_ q .int := ⟨_, own_setS SL7, A14_⟩
    refine own_astore (L' := #[_, _, _, _, _, _, _, _, _, _, _, _]) C X14_ at_103 rfl rfl rfl ?_
    refine own_iload C X14_ at_105 rfl rfl ?_
    refine own_ifY (pc' := 143) C X14_ at_107 ((if0 _ _).trans (teq rfl).1) (by decide) (by decide) ?_
    refine own_iloadN C X14_ at_143 rfl rfl ?_
    refine own_iconst C X14_ (3) at_144 rfl rfl ?_
    refine own_iand C X14_ at_145 rfl ?_
    refine own_istore (L' := #[_, _, _, _, _, _, _, _, _, _, _, _]) C X14_ at_146 rfl rfl ?_
    have ht := own_m3 i2
    generalize (i2 &&& 3) = t at ht
    refine own_iloadN C X14_ at_148 rfl rfl ?_
    refine own_bipush C X14_ (7) at_149 rfl rfl ?_
    refine own_iand C X14_ at_151 rfl ?_
    refine own_istore (L' := #[_, _, _, _, _, _, _, _, _, _, _, _]) C X14_ at_152 rfl rfl ?_
    generalize (i3 &&& 7) = b
    refine own_iload C X14_ at_154 rfl rfl ?_
    refine own_istore (L' := #[_, _, _, _, _, _, _, _, _, _, _, _]) C X14_ at_156 rfl rfl ?_
    refine own_aload C X14_ at_158 rfl rfl rfl ?_
    refine own_iload C X14_ at_160 rfl rfl ?_
    refine own_iloadN C X14_ at_162 rfl rfl ?_
    refine own_iastore C X14_ e14_ AH8 (own_idx SG4 ht.1 ht.2) at_163 rfl fun T15_ h15_ X15_ e15_ W15_ A15_ => ?_
    have N20 := Fr.snoc X15_ N12 gg
    have AL20 := AL8.other W15_ nl.symm
    have AG20 := A15_
    have V20 := own_hit (v := i0) SG4 ht.1 ht.2
    have SX : (cg4.setSlot t.toNatClampNeg (.int i0)).slots.size = 4 := own_setS SG4
    generalize cg4.setSlot t.toNatClampNeg (.int i0) = cz at *
    have z20 := Nat.le_trans z12 (Nat.le_of_eq W15_.size.symm)
    refine own_newO C X15_ (hw _ (List.mem_of_getElem? (i := 1) rfl)) (hw _ (List.mem_of_getElem? (i := 2) rfl)) (hw _ (List.mem_of_getElem? (i := 3) rfl)) e15_ (by decide) (by decide) at_164 rfl fun T16_ h16_ a16_ X16_ e16_ g16_ E16_ A16_ D16_ => ?_
    have gf : n0 ≤ a16_ := by rw [g16_]; exact z20
    have z21 := Nat.le_trans z20 E16_.1
    have nfg : a1_ ≠ a16_ := own_ne AG20.lt g16_
    have nfl : a6_ ≠ a16_ := own_ne AL20.lt g16_
    have AG21 := AG20.ext E16_
    have AL21 := AL20.ext E16_
    have H_globals : Fld Z h16_ a16_ "com/example/anchovy/anchovy/model/Frame" "globals" "[I" (.null) := D16_ (Or.inr (hw _ (List.mem_of_getElem? (i := 20) rfl))) (ty := .array .int) (by decide)
    have H_locals : Fld Z h16_ a16_ "com/example/anchovy/anchovy/model/Frame" "locals" "[I" (.null) := D16_ (Or.inr (hw _ (List.mem_of_getElem? (i := 22) rfl))) (ty := .array .int) (by decide)
    have H_stateFixed : Fld Z h16_ a16_ "com/example/anchovy/anchovy/model/Frame" "stateFixed" "Z" (.int 0) := D16_ (Or.inr (hw _ (List.mem_of_getElem? (i := 24) rfl))) (ty := .boolean) (by decide)
    have H_printed : Fld Z h16_ a16_ "com/example/anchovy/anchovy/model/Frame" "printed" "Ljava/lang/StringBuilder;" (.null) := D16_ (Or.inr (hw _ (List.mem_of_getElem? (i := 26) rfl))) (ty := .object "java/lang/StringBuilder") (by decide)
    have H_symmetry : Fld Z h16_ a16_ "com/example/anchovy/anchovy/model/Frame" "symmetry" "Lcom/example/anchovy/anchovy/model/Symmetry;" (.null) := D16_ (Or.inr (hw _ (List.mem_of_getElem? (i := 28) rfl))) (ty := .object "com/example/anchovy/anchovy/model/Symmetry") (by decide)
    have H_base : Fld Z h16_ a16_ "com/example/anchovy/anchovy/model/Frame" "base" "I" (.int 0) := D16_ (Or.inl (hw _ (List.mem_of_getElem? (i := 30) rfl))) (ty := .int) (by decide)
    refine own_dup C X16_ at_167 rfl rfl ?_
    refine own_aload C X16_ at_168 rfl rfl rfl ?_
    refine own_aload C X16_ at_170 rfl rfl rfl ?_
    refine own_callI C X16_ 1 [.ref a1_, .ref a6_] (hw _ (List.mem_of_getElem? (i := 4) rfl)) rfl (hw _ (List.mem_of_getElem? (i := 5) rfl)) (hw _ (List.mem_of_getElem? (i := 3) rfl)) (hw _ (List.mem_of_getElem? (i := 6) rfl)) (by decide) e16_ (rm1 l Z a0 hw [] a16_ a1_ a6_ h16_ n0 z21 A16_ H_globals H_locals H_stateFixed H_printed H_symmetry H_base gf) rfl (by decide) (by decide) rfl (lenOf pd_1 rfl) rfl (Nat.le_of_eq rfl) (by decide) (by decide) at_172 rfl (fun _ _ _ q => q.1) fun T17_ L17_ X17_ Q17_ => ?_
    obtain ⟨-, N21q, K21, EF, HG, HL, HB⟩ := Q17_
    have N21 := Fr.app N20 N21q
    have z22 := Nat.le_trans z21 K21.1
    have AG22 := own_arrK AG21 K21 (ninS nfg nin0)
    have AL22 := own_arrK AL21 K21 (ninS nfl nin0)
    refine own_astore (L' := #[_, _, _, _, _, _, _, _, _, _, _, _]) C X17_ at_175 rfl rfl rfl ?_
    refine own_aload C X17_ at_177 rfl rfl rfl ?_
    refine own_iload C X17_ at_179 rfl rfl ?_
    refine own_putF C X17_ (hw _ (List.mem_of_getElem? (i := 29) rfl)) Via.refl rfl HB EF (Or.inl (hw _ (List.mem_of_getElem? (i := 30) rfl))) (hw _ (List.mem_of_getElem? (i := 2) rfl)) (ty := .int) (by decide) rfl rfl at_181 rfl fun T18_ h18_ X18_ e18_ W18_ F18_ E18_ => ?_
    have N22 := Fr.snoc X18_ N21 gf
    have z23 := Nat.le_trans z22 (Nat.le_of_eq W18_.size.symm)
    have HG2 := HG.other W18_ (Or.inr (slot_ne (t := .array .int) (t' := .int) (Or.inr (hw _ (List.mem_of_getElem? (i := 20) rfl))) (Or.inl (hw _ (List.mem_of_getElem? (i := 30) rfl))) (by decide) (by decide) (by decide)))
    have HL2 := HL.other W18_ (Or.inr (slot_ne (t := .array .int) (t' := .int) (Or.inr (hw _ (List.mem_of_getElem? (i := 22) rfl))) (Or.inl (hw _ (List.mem_of_getElem? (i := 30) rfl))) (by decide) (by decide) (by decide)))
    have AG23 := AG22.other W18_ nfg
    have AL23 := AL22.other W18_ nfl
    refine own_newO C X18_ (hw _ (List.mem_of_getElem? (i := 31) rfl)) (hw _ (List.mem_of_getElem? (i := 32) rfl)) (hw _ (List.mem_of_getElem? (i := 33) rfl)) e18_ (by decide) (by decide) at_184 rfl fun T19_ h19_ a19_ X19_ e19_ g19_ E19_ A19_ D19_ => ?_
    have gd : n0 ≤ a19_ := by rw [g19_]; exact z23
    have z24 := Nat.le_trans z23 E19_.1
    have ndg : a1_ ≠ a19_ := own_ne AG23.lt g19_
    have ndl : a6_ ≠ a19_ := own_ne AL23.lt g19_
    have ndf : a16_ ≠ a19_ := own_ne E18_.lt g19_
    have H_type : Fld Z h19_ a19_ "com/example/anchovy/anchovy/model/Designator" "type" "Lcom/example/anchovy/anchovy/model/Type;" (.null) := D19_ (Or.inr (hw _ (List.mem_of_getElem? (i := 52) rfl))) (ty := .object "com/example/anchovy/anchovy/model/Type") (by decide)
    have H_name : Fld Z h19_ a19_ "com/example/anchovy/anchovy/model/VariableDesignator" "name" "Ljava/lang/String;" (.null) := D19_ (Or.inr (hw _ (List.mem_of_getElem? (i := 54) rfl))) (ty := .object "java/lang/String") (by decide)
    have H_local : Fld Z h19_ a19_ "com/example/anchovy/anchovy/model/VariableDesignator" "local" "Z" (.int 0) := D19_ (Or.inr (hw _ (List.mem_of_getElem? (i := 56) rfl))) (ty := .boolean) (by decide)
    have H_slot : Fld Z h19_ a19_ "com/example/anchovy/anchovy/model/VariableDesignator" "slot" "I" (.int 0) := D19_ (Or.inr (hw _ (List.mem_of_getElem? (i := 58) rfl))) (ty := .int) (by decide)
    have HG3 := HG2.ext E19_
    have HL3 := HL2.ext E19_
    have HB3 := F18_.ext E19_
    have AG24 := AG23.ext E19_
    have AL24 := AL23.ext E19_
    refine own_dup C X19_ at_187 rfl rfl ?_
    refine own_ldcS C X19_ (n := 4) (hw _ (List.mem_of_getElem? (i := 34) rfl)) (own_wS hw) e19_ (by decide) (by decide) (by decide) (by decide) at_188 rfl fun T20_ h20_ a20_ k20_ C20_ X20_ e20_ E20_ S20_ b20_ => ?_
    have z25 := Nat.le_trans z24 E20_.1
    have I_type := H_type.ext E20_
    have I_name := H_name.ext E20_
    have I_local := H_local.ext E20_
    have I_slot := H_slot.ext E20_
    have HG4 := HG3.ext E20_
    have HL4 := HL3.ext E20_
    have HB4 := HB3.ext E20_
    have AG25 := AG24.ext E20_
    have AL25 := AL24.ext E20_
    have ED := A19_.ext E20_
    refine own_aconstNull C20_ X20_ at_190 rfl ?_
    refine own_iload C20_ X20_ at_191 rfl rfl ?_
    refine own_iload C20_ X20_ at_193 rfl rfl ?_
    refine own_callI C20_ X20_ 1 [.ref a20_, .null, .int 0, .int t] (hw _ (List.mem_of_getElem? (i := 42) rfl)) rfl (hw _ (List.mem_of_getElem? (i := 43) rfl)) (hw _ (List.mem_of_getElem? (i := 33) rfl)) (hw _ (List.mem_of_getElem? (i := 44) rfl)) (by decide) e20_ (rm6 l Z a0 hw [] a19_ a20_ 0 t h20_ n0 z25 ED I_type I_name I_local I_slot gd rfl rfl) rfl (by decide) (by decide) rfl (lenOf pd_6 rfl) rfl (Nat.le_of_eq rfl) (by decide) (by decide) at_195 rfl (fun _ _ _ q => q.1) fun T21_ L21_ X21_ Q21_ => ?_
    obtain ⟨-, N26q, K26, ED2, J1, J2⟩ := Q21_
    have N26 := Fr.app N22 N26q
    have z26 := Nat.le_trans z25 K26.1
    have HG5 := HG4.keep K26 (ninS ndf nin0)
    have HL5 := HL4.keep K26 (ninS ndf nin0)
    have HB5 := HB4.keep K26 (ninS ndf nin0)
    have AG26 := own_arrK AG25 K26 (ninS ndg nin0)
    have AL26 := own_arrK AL25 K26 (ninS ndl nin0)
    refine own_astore (L' := #[_, _, _, _, _, _, _, _, _, _, _, _]) C20_ X21_ at_198 rfl rfl rfl ?_
    refine own_aload C20_ X21_ at_200 rfl rfl rfl ?_
    refine own_aload C20_ X21_ at_202 rfl rfl rfl ?_
    refine own_callV C20_ X21_ 0 [.ref a16_] (hw _ (List.mem_of_getElem? (i := 59) rfl)) (hw _ (List.mem_of_getElem? (i := 60) rfl)) (hw _ (List.mem_of_getElem? (i := 62) rfl)) (hw _ (List.mem_of_getElem? (i := 61) rfl)) (hw _ (List.mem_of_getElem? (i := 33) rfl)) (hw _ (List.mem_of_getElem? (i := 63) rfl)) ED2 (by decide) rfl (rm9 l Z a0 hw [] a19_ a16_ a1_ cz b t i0 T21_.heap n0 z26 J1 J2 HG5 HB5 AG26 (own_idx SX ht.1 ht.2) V20) rfl (by decide) (by decide) rfl (lenOf pd_8 rfl) rfl (Nat.le_of_eq rfl) (by decide) (by decide) at_204 rfl (fun _ _ _ q => q.1) fun T22_ L22_ X22_ Q22_ => ?_
    obtain ⟨-, N27q, H27⟩ := Q22_
    refine own_iloadN C20_ X22_ at_207 rfl rfl ?_
    refine own_icmpN C20_ X22_ at_208 (teq rfl).2 rfl ?_
    refine own_iconst C20_ X22_ (1) at_211 rfl rfl ?_
    refine own_goto (pc' := 216) C20_ X22_ at_212 (by decide) (by decide) ?_
    exact own_retNW C20_ X22_ S20_ (by rw [H27]; exact Nat.le_trans b20_ K26.1) Bd.returns (by simp) Bd.notSynchronized (by decide) (by decide) at_216 ⟨rfl, Fr.app N26 N27q⟩
  · refine own_ifN C X0 at_3 ((if0 _ _).trans (feq b3).1) rfl ?_
    refine own_iconst C X0 (1) at_6 rfl rfl ?_
    refine own_goto (pc' := 11) C X0 at_7 (by decide) (by decide) ?_
    refine own_istore (L' := #[_, _, _, _, _, _, _, _, _, _, _, _]) C X0 at_11 rfl rfl ?_
    refine own_iconst C X0 (4) at_13 rfl rfl ?_
    refine own_newP C X0 4 (hw _ (List.mem_of_getElem? (i := 0) rfl)) e0 (by decide) (by decide) (by decide) (by decide) (by decide) at_14 rfl fun T1_ h1_ a1_ k1_ X1_ e1_ g1_ E1_ A1_ => ?_
    have SG : (newA k1_ (newarray.typeOf .int) 4).slots.size = 4 := sz_new _ _ _
    generalize newA k1_ (newarray.typeOf .int) 4 = cg0 at *
    have gg : n0 ≤ a1_ := by rw [g1_]; exact Z0
    have z0 := Nat.le_trans Z0 E1_.1
    refine own_dup C X1_ at_16 rfl rfl ?_
    refine own_iconst C X1_ (0) at_17 rfl rfl ?_
    refine own_iloadN C X1_ at_18 rfl rfl ?_
    refine own_iconst C X1_ (1) at_19 rfl rfl ?_
    refine own_iadd C X1_ at_20 rfl ?_
    refine own_iastore C X1_ e1_ A1_ (own_idx SG (by decide) (by decide)) at_21 rfl fun T2_ h2_ X2_ e2_ W2_ A2_ => ?_
    have N1 := Fr.snoc X2_ N0 gg
    have z1 := Nat.le_trans z0 (Nat.le_of_eq W2_.size.symm)
    obtain ⟨cg1, SG1, AG1⟩ : ∃ q : Cell, q.slots.size = 4 ∧ Arr Z h2_ a1_ q .int := ⟨_, own_setS SG, A2_⟩
    refine own_dup C X2_ at_22 rfl rfl ?_
    refine own_iconst C X2_ (1) at_23 rfl rfl ?_
    refine own_iloadN C X2_ at_24 rfl rfl ?_
    refine own_iconst C X2_ (2) at_25 rfl rfl ?_
    refine own_iadd C X2_ at_26 rfl ?_
    refine own_iastore C X2_ e2_ AG1 (own_idx SG1 (by decide) (by decide)) at_27 rfl fun T3_ h3_ X3_ e3_ W3_ A3_ => ?_
    have N2 := Fr.snoc X3_ N1 gg
    have z2 := Nat.le_trans z1 (Nat.le_of_eq W3_.size.symm)
    obtain ⟨cg2, SG2, AG2⟩ : ∃ q : Cell, q.slots.size = 4 ∧ Arr Z h3_ a1_ q .int := ⟨_, own_setS SG1, A3_⟩
    refine own_dup C X3_ at_28 rfl rfl ?_
    refine own_iconst C X3_ (2) at_29 rfl rfl ?_
    refine own_iloadN C X3_ at_30 rfl rfl ?_
    refine own_iconst C X3_ (3) at_31 rfl rfl ?_
    refine own_iadd C X3_ at_32 rfl ?_
    refine own_iastore C X3_ e3_ AG2 (own_idx SG2 (by decide) (by decide)) at_33 rfl fun T4_ h4_ X4_ e4_ W4_ A4_ => ?_
    have N3 := Fr.snoc X4_ N2 gg
    have z3 := Nat.le_trans z2 (Nat.le_of_eq W4_.size.symm)
    obtain ⟨cg3, SG3, AG3⟩ : ∃ q : Cell, q.slots.size = 4 ∧ Arr Z h4_ a1_ q .int := ⟨_, own_setS SG2, A4_⟩
    refine own_dup C X4_ at_34 rfl rfl ?_
    refine own_iconst C X4_ (3) at_35 rfl rfl ?_
    refine own_iloadN C X4_ at_36 rfl rfl ?_
    refine own_iconst C X4_ (4) at_37 rfl rfl ?_
    refine own_iadd C X4_ at_38 rfl ?_
    refine own_iastore C X4_ e4_ AG3 (own_idx SG3 (by decide) (by decide)) at_39 rfl fun T5_ h5_ X5_ e5_ W5_ A5_ => ?_
    have N4 := Fr.snoc X5_ N3 gg
    have z4 := Nat.le_trans z3 (Nat.le_of_eq W5_.size.symm)
    obtain ⟨cg4, SG4, AG4⟩ : ∃ q : Cell, q.slots.size = 4 ∧ Arr Z h5_ a1_ q .int := ⟨_, own_setS SG3, A5_⟩
    refine own_astore (L' := #[_, _, _, _, _, _, _, _, _, _, _, _]) C X5_ at_40 rfl rfl rfl ?_
    refine own_bipush C X5_ (8) at_42 rfl rfl ?_
    refine own_newP C X5_ 8 (hw _ (List.mem_of_getElem? (i := 0) rfl)) e5_ (by decide) (by decide) (by decide) (by decide) (by decide) at_44 rfl fun T6_ h6_ a6_ k6_ X6_ e6_ g6_ E6_ A6_ => ?_
    have SL : (newA k6_ (newarray.typeOf .int) 8).slots.size = 8 := sz_new _ _ _
    generalize newA k6_ (newarray.typeOf .int) 8 = cl0 at *
    have gl : n0 ≤ a6_ := by rw [g6_]; exact z4
    have nl : a1_ ≠ a6_ := own_ne AG4.lt g6_
    have y0 := Nat.le_trans z4 E6_.1
    have AH0 := AG4.ext E6_
    refine own_dup C X6_ at_46 rfl rfl ?_
    refine own_iconst C X6_ (0) at_47 rfl rfl ?_
    refine own_iloadN C X6_ at_48 rfl rfl ?_
    refine own_iconst C X6_ (5) at_49 rfl rfl ?_
    refine own_iadd C X6_ at_50 rfl ?_
    refine own_iastore C X6_ e6_ A6_ (own_idx SL (by decide) (by decide)) at_51 rfl fun T7_ h7_ X7_ e7_ W7_ A7_ => ?_
    have N5 := Fr.snoc X7_ N4 gl
    have z5 := Nat.le_trans y0 (Nat.le_of_eq W7_.size.symm)
    have AH1 := AH0.other W7_ nl
    obtain ⟨cl1, SL1, AL1⟩ : ∃ q : Cell, q.slots.size = 8 ∧ Arr Z h7_ a6_ q .int := ⟨_, own_setS SL, A7_⟩
    refine own_dup C X7_ at_52 rfl rfl ?_
    refine own_iconst C X7_ (1) at_53 rfl rfl ?_
    refine own_iloadN C X7_ at_54 rfl rfl ?_
    refine own_bipush C X7_ (6) at_55 rfl rfl ?_
    refine own_iadd C X7_ at_57 rfl ?_
    refine own_iastore C X7_ e7_ AL1 (own_idx SL1 (by decide) (by decide)) at_58 rfl fun T8_ h8_ X8_ e8_ W8_ A8_ => ?_
    have N6 := Fr.snoc X8_ N5 gl
    have z6 := Nat.le_trans z5 (Nat.le_of_eq W8_.size.symm)
    have AH2 := AH1.other W8_ nl
    obtain ⟨cl2, SL2, AL2⟩ : ∃ q : Cell, q.slots.size = 8 ∧ Arr Z h8_ a6_ q .int := ⟨_, own_setS SL1, A8_⟩
    refine own_dup C X8_ at_59 rfl rfl ?_
    refine own_iconst C X8_ (2) at_60 rfl rfl ?_
    refine own_iloadN C X8_ at_61 rfl rfl ?_
    refine own_bipush C X8_ (7) at_62 rfl rfl ?_
    refine own_iadd C X8_ at_64 rfl ?_
    refine own_iastore C X8_ e8_ AL2 (own_idx SL2 (by decide) (by decide)) at_65 rfl fun T9_ h9_ X9_ e9_ W9_ A9_ => ?_
    have N7 := Fr.snoc X9_ N6 gl
    have z7 := Nat.le_trans z6 (Nat.le_of_eq W9_.size.symm)
    have AH3 := AH2.other W9_ nl
    obtain ⟨cl3, SL3, AL3⟩ : ∃ q : Cell, q.slots.size = 8 ∧ Arr Z h9_ a6_ q .int := ⟨_, own_setS SL2, A9_⟩
    refine own_dup C X9_ at_66 rfl rfl ?_
    refine own_iconst C X9_ (3) at_67 rfl rfl ?_
    refine own_iloadN C X9_ at_68 rfl rfl ?_
    refine own_bipush C X9_ (8) at_69 rfl rfl ?_
    refine own_iadd C X9_ at_71 rfl ?_
    refine own_iastore C X9_ e9_ AL3 (own_idx SL3 (by decide) (by decide)) at_72 rfl fun T10_ h10_ X10_ e10_ W10_ A10_ => ?_
    have N8 := Fr.snoc X10_ N7 gl
    have z8 := Nat.le_trans z7 (Nat.le_of_eq W10_.size.symm)
    have AH4 := AH3.other W10_ nl
    obtain ⟨cl4, SL4, AL4⟩ : ∃ q : Cell, q.slots.size = 8 ∧ Arr Z h10_ a6_ q .int := ⟨_, own_setS SL3, A10_⟩
    refine own_dup C X10_ at_73 rfl rfl ?_
    refine own_iconst C X10_ (4) at_74 rfl rfl ?_
    refine own_iloadN C X10_ at_75 rfl rfl ?_
    refine own_bipush C X10_ (9) at_76 rfl rfl ?_
    refine own_iadd C X10_ at_78 rfl ?_
    refine own_iastore C X10_ e10_ AL4 (own_idx SL4 (by decide) (by decide)) at_79 rfl fun T11_ h11_ X11_ e11_ W11_ A11_ => ?_
    have N9 := Fr.snoc X11_ N8 gl
    have z9 := Nat.le_trans z8 (Nat.le_of_eq W11_.size.symm)
    have AH5 := AH4.other W11_ nl
    obtain ⟨cl5, SL5, AL5⟩ : ∃ q : Cell, q.slots.size = 8 ∧ Arr Z h11_ a6_ q .int := ⟨_, own_setS SL4, A11_⟩
    refine own_dup C X11_ at_80 rfl rfl ?_
    refine own_iconst C X11_ (5) at_81 rfl rfl ?_
    refine own_iloadN C X11_ at_82 rfl rfl ?_
    refine own_bipush C X11_ (10) at_83 rfl rfl ?_
    refine own_iadd C X11_ at_85 rfl ?_
    refine own_iastore C X11_ e11_ AL5 (own_idx SL5 (by decide) (by decide)) at_86 rfl fun T12_ h12_ X12_ e12_ W12_ A12_ => ?_
    have N10 := Fr.snoc X12_ N9 gl
    have z10 := Nat.le_trans z9 (Nat.le_of_eq W12_.size.symm)
    have AH6 := AH5.other W12_ nl
    obtain ⟨cl6, SL6, AL6⟩ : ∃ q : Cell, q.slots.size = 8 ∧ Arr Z h12_ a6_ q .int := ⟨_, own_setS SL5, A12_⟩
    refine own_dup C X12_ at_87 rfl rfl ?_
    refine own_bipush C X12_ (6) at_88 rfl rfl ?_
    refine own_iloadN C X12_ at_90 rfl rfl ?_
    refine own_bipush C X12_ (11) at_91 rfl rfl ?_
    refine own_iadd C X12_ at_93 rfl ?_
    refine own_iastore C X12_ e12_ AL6 (own_idx SL6 (by decide) (by decide)) at_94 rfl fun T13_ h13_ X13_ e13_ W13_ A13_ => ?_
    have N11 := Fr.snoc X13_ N10 gl
    have z11 := Nat.le_trans z10 (Nat.le_of_eq W13_.size.symm)
    have AH7 := AH6.other W13_ nl
    obtain ⟨cl7, SL7, AL7⟩ : ∃ q : Cell, q.slots.size = 8 ∧ Arr Z h13_ a6_ q .int := ⟨_, own_setS SL6, A13_⟩
    refine own_dup C X13_ at_95 rfl rfl ?_
    refine own_bipush C X13_ (7) at_96 rfl rfl ?_
    refine own_iloadN C X13_ at_98 rfl rfl ?_
    refine own_bipush C X13_ (12) at_99 rfl rfl ?_
    refine own_iadd C X13_ at_101 rfl ?_
    refine own_iastore C X13_ e13_ AL7 (own_idx SL7 (by decide) (by decide)) at_102 rfl fun T14_ h14_ X14_ e14_ W14_ A14_ => ?_
    have N12 := Fr.snoc X14_ N11 gl
    have z12 := Nat.le_trans z11 (Nat.le_of_eq W14_.size.symm)
    have AH8 := AH7.other W14_ nl
    obtain ⟨cl8, SL8, AL8⟩ : ∃ q : Cell, q.slots.size = 8 ∧ Arr Z h14_ a6_ q .int := ⟨_, own_setS SL7, A14_⟩
    refine own_astore (L' := #[_, _, _, _, _, _, _, _, _, _, _, _]) C X14_ at_103 rfl rfl rfl ?_
    refine own_iload C X14_ at_105 rfl rfl ?_
    refine own_ifN C X14_ at_107 ((if0 _ _).trans (feq (show ¬ (1 : Int32) = 0 by decide)).1) rfl ?_
    refine own_iloadN C X14_ at_110 rfl rfl ?_
    refine own_bipush C X14_ (7) at_111 rfl rfl ?_
    refine own_iand C X14_ at_113 rfl ?_
    refine own_istore (L' := #[_, _, _, _, _, _, _, _, _, _, _, _]) C X14_ at_114 rfl rfl ?_
    have ht := own_m7 i2
    generalize (i2 &&& 7) = t at ht
    refine own_iloadN C X14_ at_116 rfl rfl ?_
    refine own_bipush C X14_ (7) at_117 rfl rfl ?_
    refine own_iand C X14_ at_119 rfl ?_
    refine own_iload C X14_ at_120 rfl rfl ?_
    refine own_iconst C X14_ (1) at_122 rfl rfl ?_
    refine own_iadd C X14_ at_123 rfl ?_
    refine own_irem C X14_ (own_nz ht) at_124 rfl ?_
    refine own_istore (L' := #[_, _, _, _, _, _, _, _, _, _, _, _]) C X14_ at_125 rfl rfl ?_
    generalize (i3 &&& 7) % (t + 1) = b
    refine own_iload C X14_ at_127 rfl rfl ?_
    refine own_iload C X14_ at_129 rfl rfl ?_
    refine own_isub C X14_ at_131 rfl ?_
    refine own_istore (L' := #[_, _, _, _, _, _, _, _, _, _, _, _]) C X14_ at_132 rfl rfl ?_
    refine own_aload C X14_ at_134 rfl rfl rfl ?_
    refine own_iload C X14_ at_136 rfl rfl ?_
    refine own_iloadN C X14_ at_138 rfl rfl ?_
    refine own_iastore C X14_ e14_ AL8 (own_idx SL8 ht.1 ht.2) at_139 rfl fun T15_ h15_ X15_ e15_ W15_ A15_ => ?_
    have N20 := Fr.snoc X15_ N12 gl
    have AG20 := AH8.other W15_ nl
    have AL20 := A15_
    have V20 := own_hit (v := i0) SL8 ht.1 ht.2
    have SX : (cl8.setSlot t.toNatClampNeg (.int i0)).slots.size = 8 := own_setS SL8
    generalize cl8.setSlot t.toNatClampNeg (.int i0) = cz at *
    have z20 := Nat.le_trans z12 (Nat.le_of_eq W15_.size.symm)
    refine own_goto (pc' := 164) C X15_ at_140 (by decide) (by decide) ?_
    refine own_newO C X15_ (hw _ (List.mem_of_getElem? (i := 1) rfl)) (hw _ (List.mem_of_getElem? (i := 2) rfl)) (hw _ (List.mem_of_getElem? (i := 3) rfl)) e15_ (by decide) (by decide) at_164 rfl fun T16_ h16_ a16_ X16_ e16_ g16_ E16_ A16_ D16_ => ?_
    have gf : n0 ≤ a16_ := by rw [g16_]; exact z20
    have z21 := Nat.le_trans z20 E16_.1
    have nfg : a1_ ≠ a16_ := own_ne AG20.lt g16_
    have nfl : a6_ ≠ a16_ := own_ne AL20.lt g16_
    have AG21 := AG20.ext E16_
    have AL21 := AL20.ext E16_
    have H_globals : Fld Z h16_ a16_ "com/example/anchovy/anchovy/model/Frame" "globals" "[I" (.null) := D16_ (Or.inr (hw _ (List.mem_of_getElem? (i := 20) rfl))) (ty := .array .int) (by decide)
    have H_locals : Fld Z h16_ a16_ "com/example/anchovy/anchovy/model/Frame" "locals" "[I" (.null) := D16_ (Or.inr (hw _ (List.mem_of_getElem? (i := 22) rfl))) (ty := .array .int) (by decide)
    have H_stateFixed : Fld Z h16_ a16_ "com/example/anchovy/anchovy/model/Frame" "stateFixed" "Z" (.int 0) := D16_ (Or.inr (hw _ (List.mem_of_getElem? (i := 24) rfl))) (ty := .boolean) (by decide)
    have H_printed : Fld Z h16_ a16_ "com/example/anchovy/anchovy/model/Frame" "printed" "Ljava/lang/StringBuilder;" (.null) := D16_ (Or.inr (hw _ (List.mem_of_getElem? (i := 26) rfl))) (ty := .object "java/lang/StringBuilder") (by decide)
    have H_symmetry : Fld Z h16_ a16_ "com/example/anchovy/anchovy/model/Frame" "symmetry" "Lcom/example/anchovy/anchovy/model/Symmetry;" (.null) := D16_ (Or.inr (hw _ (List.mem_of_getElem? (i := 28) rfl))) (ty := .object "com/example/anchovy/anchovy/model/Symmetry") (by decide)
    have H_base : Fld Z h16_ a16_ "com/example/anchovy/anchovy/model/Frame" "base" "I" (.int 0) := D16_ (Or.inl (hw _ (List.mem_of_getElem? (i := 30) rfl))) (ty := .int) (by decide)
    refine own_dup C X16_ at_167 rfl rfl ?_
    refine own_aload C X16_ at_168 rfl rfl rfl ?_
    refine own_aload C X16_ at_170 rfl rfl rfl ?_
    refine own_callI C X16_ 1 [.ref a1_, .ref a6_] (hw _ (List.mem_of_getElem? (i := 4) rfl)) rfl (hw _ (List.mem_of_getElem? (i := 5) rfl)) (hw _ (List.mem_of_getElem? (i := 3) rfl)) (hw _ (List.mem_of_getElem? (i := 6) rfl)) (by decide) e16_ (rm1 l Z a0 hw [] a16_ a1_ a6_ h16_ n0 z21 A16_ H_globals H_locals H_stateFixed H_printed H_symmetry H_base gf) rfl (by decide) (by decide) rfl (lenOf pd_1 rfl) rfl (Nat.le_of_eq rfl) (by decide) (by decide) at_172 rfl (fun _ _ _ q => q.1) fun T17_ L17_ X17_ Q17_ => ?_
    obtain ⟨-, N21q, K21, EF, HG, HL, HB⟩ := Q17_
    have N21 := Fr.app N20 N21q
    have z22 := Nat.le_trans z21 K21.1
    have AG22 := own_arrK AG21 K21 (ninS nfg nin0)
    have AL22 := own_arrK AL21 K21 (ninS nfl nin0)
    refine own_astore (L' := #[_, _, _, _, _, _, _, _, _, _, _, _]) C X17_ at_175 rfl rfl rfl ?_
    refine own_aload C X17_ at_177 rfl rfl rfl ?_
    refine own_iload C X17_ at_179 rfl rfl ?_
    refine own_putF C X17_ (hw _ (List.mem_of_getElem? (i := 29) rfl)) Via.refl rfl HB EF (Or.inl (hw _ (List.mem_of_getElem? (i := 30) rfl))) (hw _ (List.mem_of_getElem? (i := 2) rfl)) (ty := .int) (by decide) rfl rfl at_181 rfl fun T18_ h18_ X18_ e18_ W18_ F18_ E18_ => ?_
    have N22 := Fr.snoc X18_ N21 gf
    have z23 := Nat.le_trans z22 (Nat.le_of_eq W18_.size.symm)
    have HG2 := HG.other W18_ (Or.inr (slot_ne (t := .array .int) (t' := .int) (Or.inr (hw _ (List.mem_of_getElem? (i := 20) rfl))) (Or.inl (hw _ (List.mem_of_getElem? (i := 30) rfl))) (by decide) (by decide) (by decide)))
    have HL2 := HL.other W18_ (Or.inr (slot_ne (t := .array .int) (t' := .int) (Or.inr (hw _ (List.mem_of_getElem? (i := 22) rfl))) (Or.inl (hw _ (List.mem_of_getElem? (i := 30) rfl))) (by decide) (by decide) (by decide)))
    have AG23 := AG22.other W18_ nfg
    have AL23 := AL22.other W18_ nfl
    refine own_newO C X18_ (hw _ (List.mem_of_getElem? (i := 31) rfl)) (hw _ (List.mem_of_getElem? (i := 32) rfl)) (hw _ (List.mem_of_getElem? (i := 33) rfl)) e18_ (by decide) (by decide) at_184 rfl fun T19_ h19_ a19_ X19_ e19_ g19_ E19_ A19_ D19_ => ?_
    have gd : n0 ≤ a19_ := by rw [g19_]; exact z23
    have z24 := Nat.le_trans z23 E19_.1
    have ndg : a1_ ≠ a19_ := own_ne AG23.lt g19_
    have ndl : a6_ ≠ a19_ := own_ne AL23.lt g19_
    have ndf : a16_ ≠ a19_ := own_ne E18_.lt g19_
    have H_type : Fld Z h19_ a19_ "com/example/anchovy/anchovy/model/Designator" "type" "Lcom/example/anchovy/anchovy/model/Type;" (.null) := D19_ (Or.inr (hw _ (List.mem_of_getElem? (i := 52) rfl))) (ty := .object "com/example/anchovy/anchovy/model/Type") (by decide)
    have H_name : Fld Z h19_ a19_ "com/example/anchovy/anchovy/model/VariableDesignator" "name" "Ljava/lang/String;" (.null) := D19_ (Or.inr (hw _ (List.mem_of_getElem? (i := 54) rfl))) (ty := .object "java/lang/String") (by decide)
    have H_local : Fld Z h19_ a19_ "com/example/anchovy/anchovy/model/VariableDesignator" "local" "Z" (.int 0) := D19_ (Or.inr (hw _ (List.mem_of_getElem? (i := 56) rfl))) (ty := .boolean) (by decide)
    have H_slot : Fld Z h19_ a19_ "com/example/anchovy/anchovy/model/VariableDesignator" "slot" "I" (.int 0) := D19_ (Or.inr (hw _ (List.mem_of_getElem? (i := 58) rfl))) (ty := .int) (by decide)
    have HG3 := HG2.ext E19_
    have HL3 := HL2.ext E19_
    have HB3 := F18_.ext E19_
    have AG24 := AG23.ext E19_
    have AL24 := AL23.ext E19_
    refine own_dup C X19_ at_187 rfl rfl ?_
    refine own_ldcS C X19_ (n := 4) (hw _ (List.mem_of_getElem? (i := 34) rfl)) (own_wS hw) e19_ (by decide) (by decide) (by decide) (by decide) at_188 rfl fun T20_ h20_ a20_ k20_ C20_ X20_ e20_ E20_ S20_ b20_ => ?_
    have z25 := Nat.le_trans z24 E20_.1
    have I_type := H_type.ext E20_
    have I_name := H_name.ext E20_
    have I_local := H_local.ext E20_
    have I_slot := H_slot.ext E20_
    have HG4 := HG3.ext E20_
    have HL4 := HL3.ext E20_
    have HB4 := HB3.ext E20_
    have AG25 := AG24.ext E20_
    have AL25 := AL24.ext E20_
    have ED := A19_.ext E20_
    refine own_aconstNull C20_ X20_ at_190 rfl ?_
    refine own_iload C20_ X20_ at_191 rfl rfl ?_
    refine own_iload C20_ X20_ at_193 rfl rfl ?_
    refine own_callI C20_ X20_ 1 [.ref a20_, .null, .int 1, .int (t - b)] (hw _ (List.mem_of_getElem? (i := 42) rfl)) rfl (hw _ (List.mem_of_getElem? (i := 43) rfl)) (hw _ (List.mem_of_getElem? (i := 33) rfl)) (hw _ (List.mem_of_getElem? (i := 44) rfl)) (by decide) e20_ (rm6 l Z a0 hw [] a19_ a20_ 1 (t - b) h20_ n0 z25 ED I_type I_name I_local I_slot gd rfl rfl) rfl (by decide) (by decide) rfl (lenOf pd_6 rfl) rfl (Nat.le_of_eq rfl) (by decide) (by decide) at_195 rfl (fun _ _ _ q => q.1) fun T21_ L21_ X21_ Q21_ => ?_
    obtain ⟨-, N26q, K26, ED2, J1, J2⟩ := Q21_
    have N26 := Fr.app N22 N26q
    have z26 := Nat.le_trans z25 K26.1
    have HG5 := HG4.keep K26 (ninS ndf nin0)
    have HL5 := HL4.keep K26 (ninS ndf nin0)
    have HB5 := HB4.keep K26 (ninS ndf nin0)
    have AG26 := own_arrK AG25 K26 (ninS ndg nin0)
    have AL26 := own_arrK AL25 K26 (ninS ndl nin0)
    refine own_astore (L' := #[_, _, _, _, _, _, _, _, _, _, _, _]) C20_ X21_ at_198 rfl rfl rfl ?_
    refine own_aload C20_ X21_ at_200 rfl rfl rfl ?_
    refine own_aload C20_ X21_ at_202 rfl rfl rfl ?_
    rw [← own_bs b t] at V20
    refine own_callV C20_ X21_ 0 [.ref a16_] (hw _ (List.mem_of_getElem? (i := 59) rfl)) (hw _ (List.mem_of_getElem? (i := 60) rfl)) (hw _ (List.mem_of_getElem? (i := 62) rfl)) (hw _ (List.mem_of_getElem? (i := 61) rfl)) (hw _ (List.mem_of_getElem? (i := 33) rfl)) (hw _ (List.mem_of_getElem? (i := 63) rfl)) ED2 (by decide) rfl (rm8 l Z a0 hw [] a19_ a16_ a6_ cz b (t - b) i0 T21_.heap n0 z26 J1 J2 HL5 HB5 AL26 (by rw [own_bs]; exact own_idx SX ht.1 ht.2) V20) rfl (by decide) (by decide) rfl (lenOf pd_8 rfl) rfl (Nat.le_of_eq rfl) (by decide) (by decide) at_204 rfl (fun _ _ _ q => q.1) fun T22_ L22_ X22_ Q22_ => ?_
    obtain ⟨-, N27q, H27⟩ := Q22_
    refine own_iloadN C20_ X22_ at_207 rfl rfl ?_
    refine own_icmpN C20_ X22_ at_208 (teq rfl).2 rfl ?_
    refine own_iconst C20_ X22_ (1) at_211 rfl rfl ?_
    refine own_goto (pc' := 216) C20_ X22_ at_212 (by decide) (by decide) ?_
    exact own_retNW C20_ X22_ S20_ (by rw [H27]; exact Nat.le_trans b20_ K26.1) Bd.returns (by simp) Bd.notSynchronized (by decide) (by decide) at_216 ⟨rfl, Fr.app N26 N27q⟩
set_option maxRecDepth 65536 in
set_option maxHeartbeats 40000000 in
theorem comes_1 {Post : Tables → Env → Array Value → State → Outcome → State → Prop} (hpost : ∀ tb e args s v u, (limb_1_1.after args s (.returned v) u = true ∧ limb_1_2.after args s (.returned v) u = true ∧ True) → ReturnedEndW s (.returned v) u (Jvm.fieldLocs frame_1_writes args s ++ Jvm.arrayLocs frame_1_arrays args s ++ Jvm.staticLocs frame_1_statics s) 24 1152 → Post tb e args s (.returned v) u) :
    ArmFor flags0 classFile x code maxLocals ret World_1 tables_1 room_1 Calls_1 rest_1 Pre_1 Post := by
  intro l hfl _ _ p e ha hc hk s m args below hf hA hF happ hP
  obtain ⟨hcalls, hrest, hpre⟩ := hP
  obtain ⟨-, -, -, hnamed, -, -, -, hat⟩ := (Spec.applies_iff hf).mp happ
  obtain ⟨hg, hn⟩ := and_e (Cond.before_iff.mp (show (Jvm.Cond.and given_1 narrow_1).before args s = true from hpre))
  obtain ⟨gc, r0⟩ := and_e hg
  obtain ⟨g0, r1⟩ := and_e r0
  obtain ⟨g1, r2⟩ := and_e r1
  obtain ⟨g2, r3⟩ := and_e r2
  have g3 := r3
  obtain ⟨w0, w1, w2, w3, rfl⟩ : ∃ w0 w1 w2 w3 : Value, args = #[w0, w1, w2, w3] := by
    have hs : args.size = 4 := by simpa [Cond.value, given_1] using gc
    obtain ⟨L⟩ := args
    match L, hs with
    | [w0, w1, w2, w3], _ => exact ⟨w0, w1, w2, w3, rfl⟩
  have hw := fun d (hd : d ∈ tables_1) => atoms_spec (ws := Jvm.Cond.code x code maxLocals ret :: tables_1) hat d (List.mem_cons_of_mem _ hd)
  obtain ⟨i0, ei0⟩ := is_v g0
  obtain rfl : w0 = (.int i0) := Option.some.inj ei0
  obtain ⟨i1, ei1⟩ := is_v g1
  obtain rfl : w1 = (.int i1) := Option.some.inj ei1
  obtain ⟨i2, ei2⟩ := is_v g2
  obtain rfl : w2 = (.int i2) := Option.some.inj ei2
  obtain ⟨i3, ei3⟩ := is_v g3
  obtain rfl : w3 = (.int i3) := Option.some.inj ei3
  obtain ⟨n, o, h1, h2, h3, _, L, rfl, ⟨rfl, N⟩, hq⟩ := rm0 l s _ hw tables_1 i0 i1 i2 i3 s.heap s.heap.size (Nat.le_refl _) p e ha hc hk s m _ below hf ((Spec.applies_iff_loose hf).mp happ).1 ⟨rfl, State.Warmed39.refl s, rfl⟩ trivial
  refine ⟨n, _, h1, h2, h3, hpost _ _ _ _ _ _ ⟨Cond.after_iff.mpr rfl, Cond.after_iff.mpr (eq_i res_at (Term.int_eval (1)) rfl), trivial⟩ ⟨hq.1, hq.2.1, hq.2.2.1, (hq.2.2.2.sift fun y hy => Or.inr (N y hy)).mono (by decide) (by decide)⟩⟩
theorem main_1_1 : Claimed_1_1 := comes_1 fun _ _ _ _ _ _ h hF => ⟨h.1, hF⟩
theorem main_1_2 : Claimed_1_2 := comes_1 fun _ _ _ _ _ _ h hF => ⟨h.2.1, hF⟩
end Jvm.Pilot.@@N@@
namespace Jvm.Pilot.@@N@@
open Jvm Jvm.ClassFile Sem Op Lib Jvm.Free Jvm.Stand Jvm.Pilot.@@N@@.Jvm.D
/-! MADE BY PROGRAM (witnessworld.py) out of the Statement's table words and the real class files: 16 classes; the members and pool entries that the words name. The judged class is class 1, her method 1. -/
namespace start1
open Jvm.ClassFile
def u (s : String) : CpInfo := .utf8 (stringToUtf16 s)
/-- a pool by its gaps: so many unusable entries, then the entry; so many at the end -/
def gap : Nat → List CpInfo → List CpInfo
  | 0, r => r
  | n + 1, r => .unusable :: gap n r
def poolList (es : List (Nat × CpInfo)) (last : Nat) : List CpInfo := es.foldr (fun e r => gap e.1 (e.2 :: r)) (gap last [])
def pool (es : List (Nat × CpInfo)) (last : Nat) : Array CpInfo := ⟨poolList es last⟩
def fileOf (pool : Array CpInfo) (this : Nat) (attrs : Array Attribute := #[]) (ms : Array MethodInfo := #[]) (fl : Nat := 33) (sup : Nat := 0) (ifs : Array Nat := #[]) (fds : Array FieldInfo := #[]) : ClassFile where
  minorVersion := 0
  majorVersion := 65
  constantPool := pool
  accessFlags := fl
  thisClass := this
  superClass := sup
  interfaces := ifs
  fields := fds
  methods := ms
  attributes := attrs
def plain (name : String) (sup : Option ClassId) : Class where
  name := name
  kind := .ordinary
  loader := none
  accessFlags := 33
  super := sup
  interfaces := #[]
  cf := none
  fields := #[]
  methods := #[]
  instanceTypes := #[]
  staticTypes := #[]
  resolved := #[]
  callSites := []
  init := .initialized
  statics := none
  mirror := none

def pool0 : Array CpInfo := pool [(5, u "<init>"), (0, u "()V"), (1, .class_ 10), (1, u "java/lang/Object")] 113

def k0c0 : Code := { maxStack := 0, maxLocals := 1, code := object_method_1_code, exceptionTable := #[], attributes := #[] }
def k0m0 : Method := { name := "<init>", desc := "()V", sig := { parameters := [], returnType := none }, accessFlags := 1, code := some k0c0 }
/-- java/lang/Object -/
def k0 : Class := { plain "java/lang/Object" none with
  accessFlags := 33
  interfaces := #[]
  cf := some (fileOf pool0 8 #[] #[{ accessFlags := 1, nameIndex := 5, descriptorIndex := 6, attributes := #[] }] 33 0 #[] #[])
  fields := #[]
  methods := #[k0m0]
  instanceTypes := #[]
  staticTypes := #[]
  resolved := Array.replicate 124 none
  statics := none }

def pool1 : Array CpInfo := pool [(2, .class_ 4), (1, u "java/lang/Object"), (0, u "<init>"), (0, u "()V"), (0, .class_ 8), (0, u "com/example/anchovy/anchovy/model/Frame"), (0, .methodref 7 10), (0, .nameAndType 5 11), (0, u "([I[I)V"), (0, .fieldref 7 13), (0, .nameAndType 14 15), (0, u "base"), (0, u "I"), (0, .class_ 17), (0, u "com/example/anchovy/anchovy/model/VariableDesignator"), (0, .string 19), (0, u "x"), (0, .methodref 16 21), (0, .nameAndType 5 22), (0, u "(Ljava/lang/String;Lcom/example/anchovy/anchovy/model/Type;ZI)V"), (0, .methodref 16 24), (0, .nameAndType 25 26), (0, u "get"), (0, u "(Lcom/example/anchovy/anchovy/model/Frame;)I"), (0, .class_ 28), (0, u "com/example/anchovy/anchovy/model/VariableDesignatorGetPinLaw"), (2, u "law"), (0, u "(IIII)Z")] 5

def k1m0 : Method := { name := "<init>", desc := "()V", sig := { parameters := [], returnType := none }, accessFlags := 1, code := none }
def k1c1 : Code := { maxStack := 6, maxLocals := 12, code := code, exceptionTable := #[], attributes := #[] }
def k1m1 : Method := { name := "law", desc := "(IIII)Z", sig := { parameters := [.int, .int, .int, .int], returnType := some .boolean }, accessFlags := 9, code := some k1c1 }
/-- com/example/anchovy/anchovy/model/VariableDesignatorGetPinLaw -/
def k1 : Class := { plain "com/example/anchovy/anchovy/model/VariableDesignatorGetPinLaw" (some 0) with
  accessFlags := 49
  interfaces := #[]
  cf := some (fileOf pool1 27 #[] #[{ accessFlags := 1, nameIndex := 5, descriptorIndex := 6, attributes := #[] }, { accessFlags := 9, nameIndex := 31, descriptorIndex := 32, attributes := #[] }] 49 2 #[] #[])
  fields := #[]
  methods := #[k1m0, k1m1]
  instanceTypes := #[]
  staticTypes := #[]
  resolved := Array.replicate 38 none
  statics := none }

def pool2 : Array CpInfo := pool [(3, .methodref 4 5), (0, .class_ 6), (0, .nameAndType 7 8), (0, u "com/example/anchovy/anchovy/model/Frame"), (0, u "<init>"), (0, u "([I[IZ)V"), (0, .methodref 4 10), (0, .nameAndType 7 11), (0, u "([I[IZLjava/lang/StringBuilder;)V"), (0, .methodref 4 13), (0, .nameAndType 7 14), (0, u "([I[IZLjava/lang/StringBuilder;Lcom/example/anchovy/anchovy/model/Symmetry;)V"), (0, .methodref 16 17), (0, .class_ 18), (0, .nameAndType 7 19), (0, u "java/lang/Object"), (0, u "()V"), (0, .fieldref 4 21), (0, .nameAndType 22 23), (0, u "globals"), (0, u "[I"), (0, .fieldref 4 25), (0, .nameAndType 26 23), (0, u "locals"), (0, .fieldref 4 28), (0, .nameAndType 29 30), (0, u "stateFixed"), (0, u "Z"), (0, .fieldref 4 32), (0, .nameAndType 33 34), (0, u "printed"), (0, u "Ljava/lang/StringBuilder;"), (0, .fieldref 4 36), (0, .nameAndType 37 38), (0, u "symmetry"), (0, u "Lcom/example/anchovy/anchovy/model/Symmetry;"), (0, u "UNDEFINED"), (0, u "I"), (2, u "base"), (0, u "([I[I)V")] 4

def k2c0 : Code := { maxStack := 4, maxLocals := 3, code := prog_63_method_1_code, exceptionTable := #[], attributes := #[] }
def k2m0 : Method := { name := "<init>", desc := "([I[I)V", sig := { parameters := [(.array .int), (.array .int)], returnType := none }, accessFlags := 1, code := some k2c0 }
def k2c1 : Code := { maxStack := 5, maxLocals := 4, code := prog_63_method_2_code, exceptionTable := #[], attributes := #[] }
def k2m1 : Method := { name := "<init>", desc := "([I[IZ)V", sig := { parameters := [(.array .int), (.array .int), .boolean], returnType := none }, accessFlags := 1, code := some k2c1 }
def k2c2 : Code := { maxStack := 6, maxLocals := 5, code := prog_63_method_3_code, exceptionTable := #[], attributes := #[] }
def k2m2 : Method := { name := "<init>", desc := "([I[IZLjava/lang/StringBuilder;)V", sig := { parameters := [(.array .int), (.array .int), .boolean, (.object "java/lang/StringBuilder")], returnType := none }, accessFlags := 1, code := some k2c2 }
def k2c3 : Code := { maxStack := 2, maxLocals := 6, code := prog_63_method_4_code, exceptionTable := #[], attributes := #[] }
def k2m3 : Method := { name := "<init>", desc := "([I[IZLjava/lang/StringBuilder;Lcom/example/anchovy/anchovy/model/Symmetry;)V", sig := { parameters := [(.array .int), (.array .int), .boolean, (.object "java/lang/StringBuilder"), (.object "com/example/anchovy/anchovy/model/Symmetry")], returnType := none }, accessFlags := 1, code := some k2c3 }
/-- com/example/anchovy/anchovy/model/Frame -/
def k2 : Class := { plain "com/example/anchovy/anchovy/model/Frame" (some 0) with
  accessFlags := 49
  interfaces := #[]
  cf := some (fileOf pool2 4 #[] #[{ accessFlags := 1, nameIndex := 7, descriptorIndex := 44, attributes := #[] }, { accessFlags := 1, nameIndex := 7, descriptorIndex := 8, attributes := #[] }, { accessFlags := 1, nameIndex := 7, descriptorIndex := 11, attributes := #[] }, { accessFlags := 1, nameIndex := 7, descriptorIndex := 14, attributes := #[] }] 49 16 #[] #[{ accessFlags := 25, nameIndex := 39, descriptorIndex := 40, attributes := #[] }, { accessFlags := 16, nameIndex := 22, descriptorIndex := 23, attributes := #[] }, { accessFlags := 16, nameIndex := 26, descriptorIndex := 23, attributes := #[] }, { accessFlags := 16, nameIndex := 29, descriptorIndex := 30, attributes := #[] }, { accessFlags := 16, nameIndex := 33, descriptorIndex := 34, attributes := #[] }, { accessFlags := 16, nameIndex := 37, descriptorIndex := 38, attributes := #[] }, { accessFlags := 0, nameIndex := 43, descriptorIndex := 40, attributes := #[] }])
  fields := #[{ name := "UNDEFINED", type := .int, accessFlags := 25, slot := 0, constantValue := 0 }, { name := "globals", type := (.array .int), accessFlags := 16, slot := 0, constantValue := 0 }, { name := "locals", type := (.array .int), accessFlags := 16, slot := 1, constantValue := 0 }, { name := "stateFixed", type := .boolean, accessFlags := 16, slot := 2, constantValue := 0 }, { name := "printed", type := (.object "java/lang/StringBuilder"), accessFlags := 16, slot := 3, constantValue := 0 }, { name := "symmetry", type := (.object "com/example/anchovy/anchovy/model/Symmetry"), accessFlags := 16, slot := 4, constantValue := 0 }, { name := "base", type := .int, accessFlags := 0, slot := 5, constantValue := 0 }]
  methods := #[k2m0, k2m1, k2m2, k2m3]
  instanceTypes := #[(.array .int), (.array .int), .boolean, (.object "java/lang/StringBuilder"), (.object "com/example/anchovy/anchovy/model/Symmetry"), .int]
  staticTypes := #[.int]
  resolved := Array.replicate 49 none
  statics := none }

def pool3 : Array CpInfo := pool [(1, .methodref 2 3), (0, .class_ 4), (0, .nameAndType 5 6), (0, u "java/lang/Object"), (0, u "<init>"), (0, u "()V"), (0, .fieldref 8 9), (0, .class_ 10), (0, .nameAndType 11 12), (0, u "com/example/anchovy/anchovy/model/Designator"), (0, u "type"), (0, u "Lcom/example/anchovy/anchovy/model/Type;"), (34, u "(Lcom/example/anchovy/anchovy/model/Type;)V")] 38

def k3c0 : Code := { maxStack := 2, maxLocals := 2, code := prog_54_method_1_code, exceptionTable := #[], attributes := #[] }
def k3m0 : Method := { name := "<init>", desc := "(Lcom/example/anchovy/anchovy/model/Type;)V", sig := { parameters := [(.object "com/example/anchovy/anchovy/model/Type")], returnType := none }, accessFlags := 4, code := some k3c0 }
/-- com/example/anchovy/anchovy/model/Designator -/
def k3 : Class := { plain "com/example/anchovy/anchovy/model/Designator" (some 0) with
  accessFlags := 1057
  interfaces := #[]
  cf := some (fileOf pool3 8 #[] #[{ accessFlags := 4, nameIndex := 5, descriptorIndex := 47, attributes := #[] }] 1057 2 #[] #[{ accessFlags := 18, nameIndex := 11, descriptorIndex := 12, attributes := #[] }])
  fields := #[{ name := "type", type := (.object "com/example/anchovy/anchovy/model/Type"), accessFlags := 18, slot := 0, constantValue := 0 }]
  methods := #[k3m0]
  instanceTypes := #[(.object "com/example/anchovy/anchovy/model/Type")]
  staticTypes := #[]
  resolved := Array.replicate 86 none
  statics := none }

def pool4 : Array CpInfo := pool [(1, .methodref 2 3), (0, .class_ 4), (0, .nameAndType 5 6), (0, u "com/example/anchovy/anchovy/model/Designator"), (0, u "<init>"), (0, u "(Lcom/example/anchovy/anchovy/model/Type;)V"), (0, .fieldref 8 9), (0, .class_ 10), (0, .nameAndType 11 12), (0, u "com/example/anchovy/anchovy/model/VariableDesignator"), (0, u "name"), (0, u "Ljava/lang/String;"), (0, .fieldref 8 14), (0, .nameAndType 15 16), (0, u "local"), (0, u "Z"), (0, .fieldref 8 18), (0, .nameAndType 19 20), (0, u "slot"), (0, u "I"), (6, u "(Ljava/lang/String;Lcom/example/anchovy/anchovy/model/Type;ZI)V"), (0, .fieldref 29 30), (0, .class_ 31), (0, .nameAndType 32 33), (0, u "com/example/anchovy/anchovy/model/Frame"), (0, u "locals"), (0, u "[I"), (0, .fieldref 29 35), (0, .nameAndType 36 33), (0, u "globals"), (0, .fieldref 29 38), (0, .nameAndType 39 20), (0, u "base"), (34, u "(Lcom/example/anchovy/anchovy/model/Frame;)I"), (2, u "get")] 26

def k4c0 : Code := { maxStack := 2, maxLocals := 5, code := prog_112_method_1_code, exceptionTable := #[], attributes := #[] }
def k4m0 : Method := { name := "<init>", desc := "(Ljava/lang/String;Lcom/example/anchovy/anchovy/model/Type;ZI)V", sig := { parameters := [(.object "java/lang/String"), (.object "com/example/anchovy/anchovy/model/Type"), .boolean, .int], returnType := none }, accessFlags := 1, code := some k4c0 }
def k4c1 : Code := { maxStack := 3, maxLocals := 2, code := prog_112_method_8_code, exceptionTable := #[], attributes := #[] }
def k4m1 : Method := { name := "get", desc := "(Lcom/example/anchovy/anchovy/model/Frame;)I", sig := { parameters := [(.object "com/example/anchovy/anchovy/model/Frame")], returnType := some .int }, accessFlags := 0, code := some k4c1 }
/-- com/example/anchovy/anchovy/model/VariableDesignator -/
def k4 : Class := { plain "com/example/anchovy/anchovy/model/VariableDesignator" (some 3) with
  accessFlags := 49
  interfaces := #[]
  cf := some (fileOf pool4 8 #[] #[{ accessFlags := 1, nameIndex := 5, descriptorIndex := 27, attributes := #[] }, { accessFlags := 0, nameIndex := 77, descriptorIndex := 74, attributes := #[] }] 49 2 #[] #[{ accessFlags := 18, nameIndex := 11, descriptorIndex := 12, attributes := #[] }, { accessFlags := 18, nameIndex := 15, descriptorIndex := 16, attributes := #[] }, { accessFlags := 18, nameIndex := 19, descriptorIndex := 20, attributes := #[] }])
  fields := #[{ name := "name", type := (.object "java/lang/String"), accessFlags := 18, slot := 1, constantValue := 0 }, { name := "local", type := .boolean, accessFlags := 18, slot := 2, constantValue := 0 }, { name := "slot", type := .int, accessFlags := 18, slot := 3, constantValue := 0 }]
  methods := #[k4m0, k4m1]
  instanceTypes := #[(.object "com/example/anchovy/anchovy/model/Type"), (.object "java/lang/String"), .boolean, .int]
  staticTypes := #[]
  resolved := Array.replicate 104 none
  statics := none }

def pool5 : Array CpInfo := pool [(1, .class_ 2), (0, u "java/io/Serializable"), (0, .class_ 4), (0, u "java/lang/Object")] 2

/-- java/io/Serializable -/
def k5 : Class := { plain "java/io/Serializable" (some 0) with
  accessFlags := 1537
  interfaces := #[]
  cf := some (fileOf pool5 1 #[] #[] 1537 3 #[] #[])
  fields := #[]
  methods := #[]
  instanceTypes := #[]
  staticTypes := #[]
  resolved := Array.replicate 7 none
  statics := none }

def pool6 : Array CpInfo := pool [(1, .class_ 2), (0, u "java/lang/Comparable"), (0, .class_ 4), (0, u "java/lang/Object")] 7

/-- java/lang/Comparable -/
def k6 : Class := { plain "java/lang/Comparable" (some 0) with
  accessFlags := 1537
  interfaces := #[]
  cf := some (fileOf pool6 1 #[] #[] 1537 3 #[] #[])
  fields := #[]
  methods := #[]
  instanceTypes := #[]
  staticTypes := #[]
  resolved := Array.replicate 12 none
  statics := none }

def pool7 : Array CpInfo := pool [(2, .class_ 4), (1, u "java/lang/CharSequence"), (42, .class_ 48), (0, u "java/lang/CharSequence$1CodePointIterator"), (10, .class_ 60), (0, u "java/lang/CharSequence$1CharIterator"), (5, .class_ 67), (0, u "java/lang/Object")] 63

/-- java/lang/CharSequence -/
def k7 : Class := { plain "java/lang/CharSequence" (some 0) with
  accessFlags := 1537
  interfaces := #[]
  cf := some (fileOf pool7 2 #[.nestMembers #[47, 59]] #[] 1537 66 #[] #[])
  fields := #[]
  methods := #[]
  instanceTypes := #[]
  staticTypes := #[]
  resolved := Array.replicate 131 none
  statics := none }

def pool8 : Array CpInfo := pool [(1, .class_ 2), (0, u "java/lang/constant/Constable"), (0, .class_ 4), (0, u "java/lang/Object")] 6

/-- java/lang/constant/Constable -/
def k8 : Class := { plain "java/lang/constant/Constable" (some 0) with
  accessFlags := 1537
  interfaces := #[]
  cf := some (fileOf pool8 1 #[] #[] 1537 3 #[] #[])
  fields := #[]
  methods := #[]
  instanceTypes := #[]
  staticTypes := #[]
  resolved := Array.replicate 11 none
  statics := none }

def pool9 : Array CpInfo := pool [(1, .class_ 2), (0, u "java/lang/constant/ConstantDesc"), (0, .class_ 4), (0, u "java/lang/Object")] 32

/-- java/lang/constant/ConstantDesc -/
def k9 : Class := { plain "java/lang/constant/ConstantDesc" (some 0) with
  accessFlags := 1537
  interfaces := #[]
  cf := some (fileOf pool9 1 #[] #[] 1537 3 #[] #[])
  fields := #[]
  methods := #[]
  instanceTypes := #[]
  staticTypes := #[]
  resolved := Array.replicate 37 none
  statics := none }

def pool10 : Array CpInfo := pool [(2, .class_ 4), (1, u "java/lang/Object"), (0, u "<init>"), (0, u "()V"), (3, .class_ 12), (1, u "java/lang/String"), (0, u "value"), (0, u "[B"), (2, u "coder"), (0, u "B"), (2, u "hash"), (0, u "I"), (2, u "hashIsZero"), (0, u "Z"), (13, u "COMPACT_STRINGS"), (534, .class_ 576), (0, u "java/lang/CharSequence"), (22, u "CASE_INSENSITIVE_ORDER"), (0, u "Ljava/util/Comparator;"), (500, u "serialPersistentFields"), (0, u "[Ljava/io/ObjectStreamField;"), (0, .class_ 1104), (0, u "java/lang/String$CaseInsensitiveComparator"), (1, .class_ 1107), (0, u "java/io/Serializable"), (0, .class_ 1109), (0, u "java/lang/Comparable"), (0, .class_ 1111), (0, u "java/lang/constant/Constable"), (0, .class_ 1113), (0, u "java/lang/constant/ConstantDesc"), (2, u "serialVersionUID"), (0, u "J"), (3, u "REPL"), (0, u "C"), (2, u "LATIN1"), (1, u "UTF16")] 323

def k10m0 : Method := { name := "<init>", desc := "()V", sig := { parameters := [], returnType := none }, accessFlags := 1, code := none }
/-- java/lang/String -/
def k10 : Class := { plain "java/lang/String" (some 0) with
  accessFlags := 49
  interfaces := #[5, 6, 7, 8, 9]
  cf := some (fileOf pool10 10 #[.nestMembers #[1103]] #[{ accessFlags := 1, nameIndex := 5, descriptorIndex := 6, attributes := #[] }] 49 2 #[1106, 1108, 575, 1110, 1112] #[{ accessFlags := 18, nameIndex := 13, descriptorIndex := 14, attributes := #[] }, { accessFlags := 18, nameIndex := 17, descriptorIndex := 18, attributes := #[] }, { accessFlags := 2, nameIndex := 21, descriptorIndex := 22, attributes := #[] }, { accessFlags := 2, nameIndex := 25, descriptorIndex := 26, attributes := #[] }, { accessFlags := 26, nameIndex := 1116, descriptorIndex := 1117, attributes := #[] }, { accessFlags := 24, nameIndex := 40, descriptorIndex := 26, attributes := #[] }, { accessFlags := 26, nameIndex := 1101, descriptorIndex := 1102, attributes := #[] }, { accessFlags := 26, nameIndex := 1121, descriptorIndex := 1122, attributes := #[] }, { accessFlags := 25, nameIndex := 599, descriptorIndex := 600, attributes := #[] }, { accessFlags := 24, nameIndex := 1125, descriptorIndex := 18, attributes := #[] }, { accessFlags := 24, nameIndex := 1127, descriptorIndex := 18, attributes := #[] }])
  fields := #[{ name := "value", type := (.array .byte), accessFlags := 18, slot := 0, constantValue := 0 }, { name := "coder", type := .byte, accessFlags := 18, slot := 1, constantValue := 0 }, { name := "hash", type := .int, accessFlags := 2, slot := 2, constantValue := 0 }, { name := "hashIsZero", type := .boolean, accessFlags := 2, slot := 3, constantValue := 0 }, { name := "serialVersionUID", type := .long, accessFlags := 26, slot := 0, constantValue := 0 }, { name := "COMPACT_STRINGS", type := .boolean, accessFlags := 24, slot := 1, constantValue := 0 }, { name := "serialPersistentFields", type := (.array (.object "java/io/ObjectStreamField")), accessFlags := 26, slot := 2, constantValue := 0 }, { name := "REPL", type := .char, accessFlags := 26, slot := 3, constantValue := 0 }, { name := "CASE_INSENSITIVE_ORDER", type := (.object "java/util/Comparator"), accessFlags := 25, slot := 4, constantValue := 0 }, { name := "LATIN1", type := .byte, accessFlags := 24, slot := 5, constantValue := 0 }, { name := "UTF16", type := .byte, accessFlags := 24, slot := 6, constantValue := 0 }]
  methods := #[k10m0]
  instanceTypes := #[(.array .byte), .byte, .int, .boolean]
  staticTypes := #[.long, .boolean, (.array (.object "java/io/ObjectStreamField")), .char, (.object "java/util/Comparator"), .byte, .byte]
  resolved := Array.replicate 1451 none
  statics := none }

def pool11 : Array CpInfo := pool [(1, u "java/lang/Cloneable"), (0, .class_ 1), (0, u "java/lang/Object"), (0, .class_ 3)] 3

/-- java/lang/Cloneable -/
def k11 : Class := { plain "java/lang/Cloneable" (some 0) with
  accessFlags := 1537
  interfaces := #[]
  cf := some (fileOf pool11 2 #[] #[] 1537 4 #[] #[])
  fields := #[]
  methods := #[]
  instanceTypes := #[]
  staticTypes := #[]
  resolved := Array.replicate 8 none
  statics := none }

/-- the primitive byte -/
def k12 : Class := { plain "byte" none with kind := .primitive 'B', accessFlags := 0x411 }
/-- [B -/
def k13 : Class := { plain "[B" (some 0) with kind := .array 12 .byte, interfaces := #[11, 5], accessFlags := 1041 }

/-- the primitive int -/
def k14 : Class := { plain "int" none with kind := .primitive 'I', accessFlags := 0x411 }
/-- [I -/
def k15 : Class := { plain "[I" (some 0) with kind := .array 14 .int, interfaces := #[11, 5], accessFlags := 1041 }

def heap : Heap := #[]
def classes : Array Class := #[k0, k1, k2, k3, k4, k5, k6, k7, k8, k9, k10, k11, k12, k13, k14, k15]
def interned : List (Array UInt16 × Addr) := []
def slotsUsed : Nat := 0
def theMethod : MethodId := ⟨1, 1⟩
def args0 : Array Value := #[.int 5, .int 1, .int 3, .int 2]
def aboutOver (below : List Frame) : State where
  vm := { classes := classes, interned := interned.toArray }
  heap := heap
  slotsUsed := slotsUsed
  threads := #[{ frames := .invoking theMethod args0 :: below }]
def below0 : List Frame := [.native { method := ⟨0, 0⟩, args := #[] }]
def about1 : State := aboutOver below0
def p0 : Program := .bare "" "" ""
def e0 : Env := launch0.env 0 0 0
theorem w_frames : about1.frames = Frame.invoking theMethod args0 :: below0 := rfl
set_option maxRecDepth 65536 in
theorem w_args : argsFit about1.vm theMethod args0 = true := by decide +kernel
set_option maxRecDepth 65536 in
theorem w_heap : heapFits about1 = true := by decide +kernel
set_option maxRecDepth 65536 in
theorem w_runnable : about1.curStatus? = some .runnable := by decide +kernel
set_option maxRecDepth 65536 in
theorem w_alone : about1.alone = true := by decide +kernel
set_option maxRecDepth 65536 in
theorem w_named : about1.methodNamed? x = some theMethod := by decide +kernel
set_option maxRecDepth 65536 in
theorem w_hears : about1.hears theMethod below0 = true := by decide +kernel
set_option maxRecDepth 65536 in
theorem w_ripe : about1.ripe theMethod args0 below0 = true := by decide +kernel
theorem w_running : about1.status = .running := rfl
set_option maxRecDepth 65536 in
theorem w_room : about1.hasRoom e0.platform room_1 = true :=
  launch0.hasRoom_least _ room_1 (by decide +kernel) (by decide +kernel) (by decide +kernel) (by decide +kernel) (by decide +kernel) (by decide +kernel)
theorem allAtoms_all (ts : List Jvm.Cond) (a : Array Jvm.Value) (st : Jvm.State) : (allAtoms ts).before a st = ts.all (fun c => c.before a st) := by
  induction ts with
  | nil => rfl
  | cons c t ih =>
    show (Jvm.Cond.and c (allAtoms t)).before a st = _
    rw [Jvm.Cond.before_and, ih, List.all_cons]
def words1 : List Jvm.Cond := Jvm.Cond.code x code maxLocals ret :: tables_1
/-- a 'code' word, met by the world's own term for the bytes: nothing is compared byte by byte -/
theorem code_word {y : MethodName} {bytes : ByteArray} {mx : Nat} {rt : Option FieldType} {a : Array Value} {s : State} {m : MethodId} {meth : Method} {c : Code} (h1 : s.methodNamed? y = some m) (h2 : s.vm.method? m = some meth) (h3 : meth.code = some c) (h4 : c.code = bytes)
    (h5 : (c.maxLocals == mx && c.exceptionTable.isEmpty && decide (c.maxStack ≤ mostOperands) && decide (meth.sig.returnType = rt) && !meth.locks && decide (parseMethodDescriptor y.desc = some meth.sig)) = true) : (Jvm.Cond.code y bytes mx rt).before a s = true := by
  simp only [Bool.and_eq_true, beq_iff_eq, Bool.not_eq_true', decide_eq_true_eq] at h5
  obtain ⟨⟨⟨⟨⟨g1, g2⟩, g3⟩, g4⟩, g5⟩, g6⟩ := h5
  simp [Cond.before, Cond.holds, Cond.value, h1, h2, h3, h4, g1, g2, g3, g4, g5, g6]
def isCode : Jvm.Cond → Bool
  | .code _ _ _ _ => true
  | _ => false
theorem all_split {L : List Jvm.Cond} {P : Jvm.Cond → Bool} (h1 : L.all (fun c => isCode c || P c) = true) (h2 : ∀ c ∈ L.filter isCode, P c = true) : L.all P = true := by
  refine List.all_eq_true.mpr fun c hc => ?_
  have h := List.all_eq_true.mp h1 c hc
  rcases Bool.eq_false_or_eq_true (isCode c) with hi | hi
  · exact h2 c (List.mem_filter.mpr ⟨hc, hi⟩)
  · simpa [hi] using h
set_option maxRecDepth 65536 in
theorem w_c0 : (Jvm.Cond.code x code maxLocals ret).before args0 about1 = true := code_word (m := ⟨1, 1⟩) (meth := k1m1) (c := k1c1) (by decide +kernel) rfl rfl rfl (by decide +kernel)
set_option maxRecDepth 65536 in
theorem w_c1 : (Jvm.Cond.code ({ cls := "com/example/anchovy/anchovy/model/Frame", name := "<init>", desc := "([I[I)V" } : Jvm.MethodName) prog_63_method_1_code (3 : Nat) (Option.none : Option Jvm.ClassFile.FieldType)).before args0 about1 = true := code_word (m := ⟨2, 0⟩) (meth := k2m0) (c := k2c0) (by decide +kernel) rfl rfl rfl (by decide +kernel)
set_option maxRecDepth 65536 in
theorem w_c2 : (Jvm.Cond.code ({ cls := "com/example/anchovy/anchovy/model/Frame", name := "<init>", desc := "([I[IZ)V" } : Jvm.MethodName) prog_63_method_2_code (4 : Nat) (Option.none : Option Jvm.ClassFile.FieldType)).before args0 about1 = true := code_word (m := ⟨2, 1⟩) (meth := k2m1) (c := k2c1) (by decide +kernel) rfl rfl rfl (by decide +kernel)
set_option maxRecDepth 65536 in
theorem w_c3 : (Jvm.Cond.code ({ cls := "com/example/anchovy/anchovy/model/Frame", name := "<init>", desc := "([I[IZLjava/lang/StringBuilder;)V" } : Jvm.MethodName) prog_63_method_3_code (5 : Nat) (Option.none : Option Jvm.ClassFile.FieldType)).before args0 about1 = true := code_word (m := ⟨2, 2⟩) (meth := k2m2) (c := k2c2) (by decide +kernel) rfl rfl rfl (by decide +kernel)
set_option maxRecDepth 65536 in
theorem w_c4 : (Jvm.Cond.code ({ cls := "com/example/anchovy/anchovy/model/Frame", name := "<init>", desc := "([I[IZLjava/lang/StringBuilder;Lcom/example/anchovy/anchovy/model/Symmetry;)V" } : Jvm.MethodName) prog_63_method_4_code (6 : Nat) (Option.none : Option Jvm.ClassFile.FieldType)).before args0 about1 = true := code_word (m := ⟨2, 3⟩) (meth := k2m3) (c := k2c3) (by decide +kernel) rfl rfl rfl (by decide +kernel)
set_option maxRecDepth 65536 in
theorem w_c5 : (Jvm.Cond.code ({ cls := "java/lang/Object", name := "<init>", desc := "()V" } : Jvm.MethodName) object_method_1_code (1 : Nat) (Option.none : Option Jvm.ClassFile.FieldType)).before args0 about1 = true := code_word (m := ⟨0, 0⟩) (meth := k0m0) (c := k0c0) (by decide +kernel) rfl rfl rfl (by decide +kernel)
set_option maxRecDepth 65536 in
theorem w_c6 : (Jvm.Cond.code ({ cls := "com/example/anchovy/anchovy/model/VariableDesignator", name := "<init>", desc := "(Ljava/lang/String;Lcom/example/anchovy/anchovy/model/Type;ZI)V" } : Jvm.MethodName) prog_112_method_1_code (5 : Nat) (Option.none : Option Jvm.ClassFile.FieldType)).before args0 about1 = true := code_word (m := ⟨4, 0⟩) (meth := k4m0) (c := k4c0) (by decide +kernel) rfl rfl rfl (by decide +kernel)
set_option maxRecDepth 65536 in
theorem w_c7 : (Jvm.Cond.code ({ cls := "com/example/anchovy/anchovy/model/Designator", name := "<init>", desc := "(Lcom/example/anchovy/anchovy/model/Type;)V" } : Jvm.MethodName) prog_54_method_1_code (2 : Nat) (Option.none : Option Jvm.ClassFile.FieldType)).before args0 about1 = true := code_word (m := ⟨3, 0⟩) (meth := k3m0) (c := k3c0) (by decide +kernel) rfl rfl rfl (by decide +kernel)
set_option maxRecDepth 65536 in
theorem w_c8 : (Jvm.Cond.code ({ cls := "com/example/anchovy/anchovy/model/VariableDesignator", name := "get", desc := "(Lcom/example/anchovy/anchovy/model/Frame;)I" } : Jvm.MethodName) prog_112_method_8_code (2 : Nat) (Option.some Jvm.ClassFile.FieldType.int)).before args0 about1 = true := code_word (m := ⟨4, 1⟩) (meth := k4m1) (c := k4c1) (by decide +kernel) rfl rfl rfl (by decide +kernel)
def codes1 : List Jvm.Cond := [Jvm.Cond.code x code maxLocals ret, Jvm.Cond.code ({ cls := "com/example/anchovy/anchovy/model/Frame", name := "<init>", desc := "([I[I)V" } : Jvm.MethodName) prog_63_method_1_code (3 : Nat) (Option.none : Option Jvm.ClassFile.FieldType), Jvm.Cond.code ({ cls := "com/example/anchovy/anchovy/model/Frame", name := "<init>", desc := "([I[IZ)V" } : Jvm.MethodName) prog_63_method_2_code (4 : Nat) (Option.none : Option Jvm.ClassFile.FieldType), Jvm.Cond.code ({ cls := "com/example/anchovy/anchovy/model/Frame", name := "<init>", desc := "([I[IZLjava/lang/StringBuilder;)V" } : Jvm.MethodName) prog_63_method_3_code (5 : Nat) (Option.none : Option Jvm.ClassFile.FieldType), Jvm.Cond.code ({ cls := "com/example/anchovy/anchovy/model/Frame", name := "<init>", desc := "([I[IZLjava/lang/StringBuilder;Lcom/example/anchovy/anchovy/model/Symmetry;)V" } : Jvm.MethodName) prog_63_method_4_code (6 : Nat) (Option.none : Option Jvm.ClassFile.FieldType), Jvm.Cond.code ({ cls := "java/lang/Object", name := "<init>", desc := "()V" } : Jvm.MethodName) object_method_1_code (1 : Nat) (Option.none : Option Jvm.ClassFile.FieldType), Jvm.Cond.code ({ cls := "com/example/anchovy/anchovy/model/VariableDesignator", name := "<init>", desc := "(Ljava/lang/String;Lcom/example/anchovy/anchovy/model/Type;ZI)V" } : Jvm.MethodName) prog_112_method_1_code (5 : Nat) (Option.none : Option Jvm.ClassFile.FieldType), Jvm.Cond.code ({ cls := "com/example/anchovy/anchovy/model/Designator", name := "<init>", desc := "(Lcom/example/anchovy/anchovy/model/Type;)V" } : Jvm.MethodName) prog_54_method_1_code (2 : Nat) (Option.none : Option Jvm.ClassFile.FieldType), Jvm.Cond.code ({ cls := "com/example/anchovy/anchovy/model/VariableDesignator", name := "get", desc := "(Lcom/example/anchovy/anchovy/model/Frame;)I" } : Jvm.MethodName) prog_112_method_8_code (2 : Nat) (Option.some Jvm.ClassFile.FieldType.int)]
set_option maxRecDepth 65536 in
theorem codes_eq : words1.filter isCode = codes1 := rfl
theorem w_codes : ∀ c ∈ words1.filter isCode, c.before args0 about1 = true := by
  rw [codes_eq]
  intro c hc
  simp only [codes1, List.mem_cons, List.not_mem_nil, or_false] at hc
  rcases hc with rfl | rfl | rfl | rfl | rfl | rfl | rfl | rfl | rfl
  · exact w_c0
  · exact w_c1
  · exact w_c2
  · exact w_c3
  · exact w_c4
  · exact w_c5
  · exact w_c6
  · exact w_c7
  · exact w_c8
set_option maxRecDepth 65536 in
theorem w_t1 : (words1.take 24).all (fun c => isCode c || c.before args0 about1) = true := by decide +kernel
set_option maxRecDepth 65536 in
theorem w_t2 : ((words1.drop 24).take 24).all (fun c => isCode c || c.before args0 about1) = true := by decide +kernel
set_option maxRecDepth 65536 in
theorem w_t3 : ((words1.drop 24).drop 24).all (fun c => isCode c || c.before args0 about1) = true := by decide +kernel
theorem w_tables : (allAtoms (Jvm.Cond.code x code maxLocals ret :: tables_1)).before args0 about1 = true := by
  rw [allAtoms_all]
  show words1.all (fun c => c.before args0 about1) = true
  refine all_split ?_ w_codes
  rw [← List.take_append_drop 24 words1, List.all_append, w_t1, ← List.take_append_drop 24 (words1.drop 24), List.all_append, w_t2, w_t3]
  rfl
set_option maxRecDepth 65536 in
theorem w_case : (Jvm.Cond.and given_1 narrow_1).before args0 about1 = true := by decide +kernel
theorem w_applies : (headSpec (Jvm.Cond.code x code maxLocals ret :: tables_1) room_1).applies x e0.platform about1 = true :=
  (Spec.applies_iff w_frames).mpr ⟨w_running, w_runnable, w_alone, w_named, w_hears, w_ripe, w_room, w_tables⟩
theorem atStart : AtStart classFile x code maxLocals ret World_1 tables_1 room_1 Calls_1 rest_1 Pre_1 launch0 p0 e0 about1 theMethod args0 below0 :=
  ⟨lists_1, trivial, launch0.admits_env _ _ _, launch0.least_env, fairChoices_fair.cas, fairChoices_fair.clock, w_frames, w_args, w_heap, w_applies, trivial, trivial, w_case⟩
end start1
theorem witness_1 : WitnessClaimed_1 := ⟨start1.p0, start1.e0, start1.about1, start1.theMethod, start1.args0, start1.below0, start1.atStart⟩
end Jvm.Pilot.@@N@@
