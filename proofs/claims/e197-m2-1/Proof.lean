import JvmDerived
import JvmDerived.Pilot.@@N@@Statement
import JvmDerived.Pilot.@@N@@Code
set_option linter.unusedVariables false
set_option linter.unusedSimpArgs false
@@BLOCK:NumsL.lean.txt@@
namespace Jvm.Pilot.@@N@@
open Jvm Jvm.ClassFile Sem Op Lib Jvm.Free Jvm.Stand Jvm.LawKit Jvm.RoadKit Bundle Jvm.Pilot.@@N@@.Jvm.D
def own_E (p : Program) (e : Env) (below : List Frame) (P : State → Outcome → Prop) (T : State) (g : JFrame) : Prop := ∃ t o, Steps p.tables e below (T.setTop g) t ∧ P t o
theorem own_go {p : Program} {e : Env} {below : List Frame} {P : State → Outcome → Prop} {T T' : State} {g g' : JFrame} (st : ∀ t, Steps p.tables e below (T'.setTop g') t → Steps p.tables e below (T.setTop g) t) (h : own_E p e below P T' g') : own_E p e below P T g := by
  obtain ⟨t, o, h1, h2⟩ := h
  exact ⟨t, o, st t h1, h2⟩
def own_C (p : Program) (s : State) (m : MethodId) (c : Code) (bytes : ByteArray) (own : String) (Z : State) (ml : Nat) : Prop := p.tables.exec = Jvm.exec ∧ c.code = bytes ∧ Z.Warmed39 s.vm ∧ s.vm.findClass own = some m.cls ∧ c.maxLocals = ml
def own_R (s : State) (below : List Frame) (Q : Option Value → Heap → List Loc → Prop) (k n : Nat) : State → Outcome → Prop := fun t o => t.status = .running ∧ Ended t below o ∧ ∃ v L, o = .returned v ∧ Q v t.heap L ∧ FrameEnd s o t L k n
section Own
variable {p : Program} {l : Launch} {e : Env} {R : Room} {s : State} {m : MethodId} {args : Array Value} {below : List Frame} {meth : Method} {c : Code} {T : State} {locs : List Loc} {cells slots : Nat} {bytes : ByteArray} {own : String} {Z : State} {ml : Nat} {P : State → Outcome → Prop} {pc pc' : Nat} {L L' : Array Slot} {S : List Value} {a0 : Array Value} {h : Heap}
theorem own_aloadN (C : own_C p s m c bytes own Z ml) (X : Stand p l e R s m args below meth c T locs cells slots) {k : Fin 4} {v : Value} (hd : decode bytes pc = .ok (.aload_n k, 1)) (hl : L[k.val]? = some (.val v)) (hv : v.isRef = true) (hp : pc + 1 = pc') (K : own_E p e below P T (mkF m pc' L (v :: S))) : own_E p e below P T (mkF m pc L S) := by
  subst hp
  exact own_go (fun t k => XS.aloadN X.here C.1 rfl (hb C.2.1 hd) hl hv k) K
theorem own_aload (C : own_C p s m c bytes own Z ml) (X : Stand p l e R s m args below meth c T locs cells slots) {k : Nat} {v : Value} (hd : decode bytes pc = .ok (.aload k, 2)) (hl : L[k]? = some (.val v)) (hv : v.isRef = true) (hp : pc + 2 = pc') (K : own_E p e below P T (mkF m pc' L (v :: S))) : own_E p e below P T (mkF m pc L S) := by
  subst hp
  exact own_go (fun t k => XS.aload X.here C.1 rfl (hb C.2.1 hd) hl hv k) K
theorem own_iloadN (C : own_C p s m c bytes own Z ml) (X : Stand p l e R s m args below meth c T locs cells slots) {k : Fin 4} {v : Int32} (hd : decode bytes pc = .ok (.iload_n k, 1)) (hl : L[k.val]? = some (.val (.int v))) (hp : pc + 1 = pc') (K : own_E p e below P T (mkF m pc' L (.int v :: S))) : own_E p e below P T (mkF m pc L S) := by
  subst hp
  exact own_go (fun t k => XS.iloadN X.here C.1 rfl (hb C.2.1 hd) hl k) K
theorem own_iload (C : own_C p s m c bytes own Z ml) (X : Stand p l e R s m args below meth c T locs cells slots) {k : Nat} {v : Int32} (hd : decode bytes pc = .ok (.iload k, 2)) (hl : L[k]? = some (.val (.int v))) (hp : pc + 2 = pc') (K : own_E p e below P T (mkF m pc' L (.int v :: S))) : own_E p e below P T (mkF m pc L S) := by
  subst hp
  exact own_go (fun t k => XS.iload X.here C.1 rfl (hb C.2.1 hd) hl k) K
theorem own_istoreN (C : own_C p s m c bytes own Z ml) (X : Stand p l e R s m args below meth c T locs cells slots) {k : Fin 4} {v : Int32} (hd : decode bytes pc = .ok (.istore_n k, 1)) (hl : storeLocals L k.val (.int v) = some L') (hp : pc + 1 = pc') (K : own_E p e below P T (mkF m pc' L' S)) : own_E p e below P T (mkF m pc L (.int v :: S)) := by
  subst hp
  exact own_go (fun t k => XS.istoreN X.here C.1 rfl (hb C.2.1 hd) rfl hl k) K
theorem own_istore (C : own_C p s m c bytes own Z ml) (X : Stand p l e R s m args below meth c T locs cells slots) {k : Nat} {v : Int32} (hd : decode bytes pc = .ok (.istore k, 2)) (hl : storeLocals L k (.int v) = some L') (hp : pc + 2 = pc') (K : own_E p e below P T (mkF m pc' L' S)) : own_E p e below P T (mkF m pc L (.int v :: S)) := by
  subst hp
  exact own_go (fun t k => XS.istore X.here C.1 rfl (hb C.2.1 hd) rfl hl k) K
theorem own_lloadN (C : own_C p s m c bytes own Z ml) (X : Stand p l e R s m args below meth c T locs cells slots) {k : Fin 4} {v : Int64} (hd : decode bytes pc = .ok (.lload_n k, 1)) (hl : L[k.val]? = some (.val (.long v))) (hp : pc + 1 = pc') (K : own_E p e below P T (mkF m pc' L (.long v :: S))) : own_E p e below P T (mkF m pc L S) := by
  subst hp
  exact own_go (fun t k => XS.lloadN X.here C.1 rfl (hb C.2.1 hd) hl k) K
theorem own_lload (C : own_C p s m c bytes own Z ml) (X : Stand p l e R s m args below meth c T locs cells slots) {k : Nat} {v : Int64} (hd : decode bytes pc = .ok (.lload k, 2)) (hl : L[k]? = some (.val (.long v))) (hp : pc + 2 = pc') (K : own_E p e below P T (mkF m pc' L (.long v :: S))) : own_E p e below P T (mkF m pc L S) := by
  subst hp
  exact own_go (fun t k => XS.lload X.here C.1 rfl (hb C.2.1 hd) hl k) K
theorem own_lstoreN (C : own_C p s m c bytes own Z ml) (X : Stand p l e R s m args below meth c T locs cells slots) {k : Fin 4} {v : Int64} (hd : decode bytes pc = .ok (.lstore_n k, 1)) (hl : storeLocals L k.val (.long v) = some L') (hp : pc + 1 = pc') (K : own_E p e below P T (mkF m pc' L' S)) : own_E p e below P T (mkF m pc L (.long v :: S)) := by
  subst hp
  exact own_go (fun t k => XS.lstoreN X.here C.1 rfl (hb C.2.1 hd) rfl hl k) K
theorem own_lstore (C : own_C p s m c bytes own Z ml) (X : Stand p l e R s m args below meth c T locs cells slots) {k : Nat} {v : Int64} (hd : decode bytes pc = .ok (.lstore k, 2)) (hl : storeLocals L k (.long v) = some L') (hp : pc + 2 = pc') (K : own_E p e below P T (mkF m pc' L' S)) : own_E p e below P T (mkF m pc L (.long v :: S)) := by
  subst hp
  exact own_go (fun t k => XS.lstore X.here C.1 rfl (hb C.2.1 hd) rfl hl k) K
theorem own_astoreN (C : own_C p s m c bytes own Z ml) (X : Stand p l e R s m args below meth c T locs cells slots) {k : Fin 4} {v : Value} (hd : decode bytes pc = .ok (.astore_n k, 1)) (hv : v.isRef = true) (hl : storeLocals L k.val v = some L') (hp : pc + 1 = pc') (K : own_E p e below P T (mkF m pc' L' S)) : own_E p e below P T (mkF m pc L (v :: S)) := by
  subst hp
  exact own_go (fun t k => XS.astoreN X.here C.1 rfl (hb C.2.1 hd) rfl hv hl k) K
theorem own_astore (C : own_C p s m c bytes own Z ml) (X : Stand p l e R s m args below meth c T locs cells slots) {k : Nat} {v : Value} (hd : decode bytes pc = .ok (.astore k, 2)) (hv : v.isRef = true) (hl : storeLocals L k v = some L') (hp : pc + 2 = pc') (K : own_E p e below P T (mkF m pc' L' S)) : own_E p e below P T (mkF m pc L (v :: S)) := by
  subst hp
  exact own_go (fun t k => XS.astore X.here C.1 rfl (hb C.2.1 hd) rfl hv hl k) K
theorem own_iconst (C : own_C p s m c bytes own Z ml) (X : Stand p l e R s m args below meth c T locs cells slots) {i : Int} (z : Int32) (hd : decode bytes pc = .ok (.iconst i, 1)) (hz : Int32.ofInt i = z) (hp : pc + 1 = pc') (K : own_E p e below P T (mkF m pc' L (.int z :: S))) : own_E p e below P T (mkF m pc L S) := by
  subst hp hz
  exact own_go (fun t k => XS.iconst X.here C.1 rfl (hb C.2.1 hd) k) K
theorem own_bipush (C : own_C p s m c bytes own Z ml) (X : Stand p l e R s m args below meth c T locs cells slots) {i : Int} (z : Int32) (hd : decode bytes pc = .ok (.bipush i, 2)) (hz : (Int8.ofInt i).toInt32 = z) (hp : pc + 2 = pc') (K : own_E p e below P T (mkF m pc' L (.int z :: S))) : own_E p e below P T (mkF m pc L S) := by
  subst hp hz
  exact own_go (fun t k => XS.bipush X.here C.1 rfl (hb C.2.1 hd) k) K
theorem own_sipush (C : own_C p s m c bytes own Z ml) (X : Stand p l e R s m args below meth c T locs cells slots) {i : Int} (z : Int32) (hd : decode bytes pc = .ok (.sipush i, 3)) (hz : (Int16.ofInt i).toInt32 = z) (hp : pc + 3 = pc') (K : own_E p e below P T (mkF m pc' L (.int z :: S))) : own_E p e below P T (mkF m pc L S) := by
  subst hp hz
  exact own_go (fun t k => XS.sipush X.here C.1 rfl (hb C.2.1 hd) k) K
theorem own_lconst (C : own_C p s m c bytes own Z ml) (X : Stand p l e R s m args below meth c T locs cells slots) {i : Fin 2} (z : Int64) (hd : decode bytes pc = .ok (.lconst i, 1)) (hz : Int64.ofNat i = z) (hp : pc + 1 = pc') (K : own_E p e below P T (mkF m pc' L (.long z :: S))) : own_E p e below P T (mkF m pc L S) := by
  subst hp hz
  exact own_go (fun t k => XS.lconst X.here C.1 rfl (hb C.2.1 hd) k) K
theorem own_aconstNull (C : own_C p s m c bytes own Z ml) (X : Stand p l e R s m args below meth c T locs cells slots)  (hd : decode bytes pc = .ok (.aconst_null, 1)) (hp : pc + 1 = pc') (K : own_E p e below P T (mkF m pc' L (.null :: S))) : own_E p e below P T (mkF m pc L S) := by
  subst hp
  exact own_go (fun t k => XS.aconstNull X.here C.1 rfl (hb C.2.1 hd) k) K
theorem own_iadd (C : own_C p s m c bytes own Z ml) (X : Stand p l e R s m args below meth c T locs cells slots) {x y : Int32} (hd : decode bytes pc = .ok (.iadd, 1)) (hp : pc + 1 = pc') (K : own_E p e below P T (mkF m pc' L (.int (x + y) :: S))) : own_E p e below P T (mkF m pc L (.int y :: .int x :: S)) := by
  subst hp
  exact own_go (fun t k => XS.iadd X.here C.1 rfl (hb C.2.1 hd) rfl k) K
theorem own_ladd (C : own_C p s m c bytes own Z ml) (X : Stand p l e R s m args below meth c T locs cells slots) {x y : Int64} (hd : decode bytes pc = .ok (.ladd, 1)) (hp : pc + 1 = pc') (K : own_E p e below P T (mkF m pc' L (.long (x + y) :: S))) : own_E p e below P T (mkF m pc L (.long y :: .long x :: S)) := by
  subst hp
  exact own_go (fun t k => XS.ladd X.here C.1 rfl (hb C.2.1 hd) rfl k) K
theorem own_isub (C : own_C p s m c bytes own Z ml) (X : Stand p l e R s m args below meth c T locs cells slots) {x y : Int32} (hd : decode bytes pc = .ok (.isub, 1)) (hp : pc + 1 = pc') (K : own_E p e below P T (mkF m pc' L (.int (x - y) :: S))) : own_E p e below P T (mkF m pc L (.int y :: .int x :: S)) := by
  subst hp
  exact own_go (fun t k => XS.isub X.here C.1 rfl (hb C.2.1 hd) rfl k) K
theorem own_lsub (C : own_C p s m c bytes own Z ml) (X : Stand p l e R s m args below meth c T locs cells slots) {x y : Int64} (hd : decode bytes pc = .ok (.lsub, 1)) (hp : pc + 1 = pc') (K : own_E p e below P T (mkF m pc' L (.long (x - y) :: S))) : own_E p e below P T (mkF m pc L (.long y :: .long x :: S)) := by
  subst hp
  exact own_go (fun t k => XS.lsub X.here C.1 rfl (hb C.2.1 hd) rfl k) K
theorem own_imul (C : own_C p s m c bytes own Z ml) (X : Stand p l e R s m args below meth c T locs cells slots) {x y : Int32} (hd : decode bytes pc = .ok (.imul, 1)) (hp : pc + 1 = pc') (K : own_E p e below P T (mkF m pc' L (.int (x * y) :: S))) : own_E p e below P T (mkF m pc L (.int y :: .int x :: S)) := by
  subst hp
  exact own_go (fun t k => XS.imul X.here C.1 rfl (hb C.2.1 hd) rfl k) K
theorem own_lmul (C : own_C p s m c bytes own Z ml) (X : Stand p l e R s m args below meth c T locs cells slots) {x y : Int64} (hd : decode bytes pc = .ok (.lmul, 1)) (hp : pc + 1 = pc') (K : own_E p e below P T (mkF m pc' L (.long (x * y) :: S))) : own_E p e below P T (mkF m pc L (.long y :: .long x :: S)) := by
  subst hp
  exact own_go (fun t k => XS.lmul X.here C.1 rfl (hb C.2.1 hd) rfl k) K
theorem own_iand (C : own_C p s m c bytes own Z ml) (X : Stand p l e R s m args below meth c T locs cells slots) {x y : Int32} (hd : decode bytes pc = .ok (.iand, 1)) (hp : pc + 1 = pc') (K : own_E p e below P T (mkF m pc' L (.int (x &&& y) :: S))) : own_E p e below P T (mkF m pc L (.int y :: .int x :: S)) := by
  subst hp
  exact own_go (fun t k => XS.iand X.here C.1 rfl (hb C.2.1 hd) rfl k) K
theorem own_land (C : own_C p s m c bytes own Z ml) (X : Stand p l e R s m args below meth c T locs cells slots) {x y : Int64} (hd : decode bytes pc = .ok (.land, 1)) (hp : pc + 1 = pc') (K : own_E p e below P T (mkF m pc' L (.long (x &&& y) :: S))) : own_E p e below P T (mkF m pc L (.long y :: .long x :: S)) := by
  subst hp
  exact own_go (fun t k => XS.land X.here C.1 rfl (hb C.2.1 hd) rfl k) K
theorem own_ior (C : own_C p s m c bytes own Z ml) (X : Stand p l e R s m args below meth c T locs cells slots) {x y : Int32} (hd : decode bytes pc = .ok (.ior, 1)) (hp : pc + 1 = pc') (K : own_E p e below P T (mkF m pc' L (.int (x ||| y) :: S))) : own_E p e below P T (mkF m pc L (.int y :: .int x :: S)) := by
  subst hp
  exact own_go (fun t k => XS.ior X.here C.1 rfl (hb C.2.1 hd) rfl k) K
theorem own_lor (C : own_C p s m c bytes own Z ml) (X : Stand p l e R s m args below meth c T locs cells slots) {x y : Int64} (hd : decode bytes pc = .ok (.lor, 1)) (hp : pc + 1 = pc') (K : own_E p e below P T (mkF m pc' L (.long (x ||| y) :: S))) : own_E p e below P T (mkF m pc L (.long y :: .long x :: S)) := by
  subst hp
  exact own_go (fun t k => XS.lor X.here C.1 rfl (hb C.2.1 hd) rfl k) K
theorem own_ixor (C : own_C p s m c bytes own Z ml) (X : Stand p l e R s m args below meth c T locs cells slots) {x y : Int32} (hd : decode bytes pc = .ok (.ixor, 1)) (hp : pc + 1 = pc') (K : own_E p e below P T (mkF m pc' L (.int (x ^^^ y) :: S))) : own_E p e below P T (mkF m pc L (.int y :: .int x :: S)) := by
  subst hp
  exact own_go (fun t k => XS.ixor X.here C.1 rfl (hb C.2.1 hd) rfl k) K
theorem own_lxor (C : own_C p s m c bytes own Z ml) (X : Stand p l e R s m args below meth c T locs cells slots) {x y : Int64} (hd : decode bytes pc = .ok (.lxor, 1)) (hp : pc + 1 = pc') (K : own_E p e below P T (mkF m pc' L (.long (x ^^^ y) :: S))) : own_E p e below P T (mkF m pc L (.long y :: .long x :: S)) := by
  subst hp
  exact own_go (fun t k => XS.lxor X.here C.1 rfl (hb C.2.1 hd) rfl k) K
theorem own_ishl (C : own_C p s m c bytes own Z ml) (X : Stand p l e R s m args below meth c T locs cells slots) {x y : Int32} (hd : decode bytes pc = .ok (.ishl, 1)) (hp : pc + 1 = pc') (K : own_E p e below P T (mkF m pc' L (.int (x <<< (y &&& 31)) :: S))) : own_E p e below P T (mkF m pc L (.int y :: .int x :: S)) := by
  subst hp
  exact own_go (fun t k => XS.ishl X.here C.1 rfl (hb C.2.1 hd) rfl k) K
theorem own_ishr (C : own_C p s m c bytes own Z ml) (X : Stand p l e R s m args below meth c T locs cells slots) {x y : Int32} (hd : decode bytes pc = .ok (.ishr, 1)) (hp : pc + 1 = pc') (K : own_E p e below P T (mkF m pc' L (.int (x >>> (y &&& 31)) :: S))) : own_E p e below P T (mkF m pc L (.int y :: .int x :: S)) := by
  subst hp
  exact own_go (fun t k => XS.ishr X.here C.1 rfl (hb C.2.1 hd) rfl k) K
theorem own_iushr (C : own_C p s m c bytes own Z ml) (X : Stand p l e R s m args below meth c T locs cells slots) {x y : Int32} (hd : decode bytes pc = .ok (.iushr, 1)) (hp : pc + 1 = pc') (K : own_E p e below P T (mkF m pc' L (.int ((x.toUInt32 >>> (y &&& 31).toUInt32).toInt32) :: S))) : own_E p e below P T (mkF m pc L (.int y :: .int x :: S)) := by
  subst hp
  exact own_go (fun t k => XS.iushr X.here C.1 rfl (hb C.2.1 hd) rfl k) K
theorem own_lshl (C : own_C p s m c bytes own Z ml) (X : Stand p l e R s m args below meth c T locs cells slots) {x : Int64} {y : Int32} (hd : decode bytes pc = .ok (.lshl, 1)) (hp : pc + 1 = pc') (K : own_E p e below P T (mkF m pc' L (.long (x <<< (y &&& 0x3f).toInt64) :: S))) : own_E p e below P T (mkF m pc L (.int y :: .long x :: S)) := by
  subst hp
  exact own_go (fun t k => XS.lshl X.here C.1 rfl (hb C.2.1 hd) rfl k) K
theorem own_lshr (C : own_C p s m c bytes own Z ml) (X : Stand p l e R s m args below meth c T locs cells slots) {x : Int64} {y : Int32} (hd : decode bytes pc = .ok (.lshr, 1)) (hp : pc + 1 = pc') (K : own_E p e below P T (mkF m pc' L (.long (x >>> (y &&& 0x3f).toInt64) :: S))) : own_E p e below P T (mkF m pc L (.int y :: .long x :: S)) := by
  subst hp
  exact own_go (fun t k => XS.lshr X.here C.1 rfl (hb C.2.1 hd) rfl k) K
theorem own_lushr (C : own_C p s m c bytes own Z ml) (X : Stand p l e R s m args below meth c T locs cells slots) {x : Int64} {y : Int32} (hd : decode bytes pc = .ok (.lushr, 1)) (hp : pc + 1 = pc') (K : own_E p e below P T (mkF m pc' L (.long ((x.toUInt64 >>> (y &&& 0x3f).toInt64.toUInt64).toInt64) :: S))) : own_E p e below P T (mkF m pc L (.int y :: .long x :: S)) := by
  subst hp
  exact own_go (fun t k => XS.lushr X.here C.1 rfl (hb C.2.1 hd) rfl k) K
theorem own_ineg (C : own_C p s m c bytes own Z ml) (X : Stand p l e R s m args below meth c T locs cells slots) {x : Int32} (hd : decode bytes pc = .ok (.ineg, 1)) (hp : pc + 1 = pc') (K : own_E p e below P T (mkF m pc' L (.int (-x) :: S))) : own_E p e below P T (mkF m pc L (.int x :: S)) := by
  subst hp
  exact own_go (fun t k => XS.ineg X.here C.1 rfl (hb C.2.1 hd) rfl k) K
theorem own_lneg (C : own_C p s m c bytes own Z ml) (X : Stand p l e R s m args below meth c T locs cells slots) {x : Int64} (hd : decode bytes pc = .ok (.lneg, 1)) (hp : pc + 1 = pc') (K : own_E p e below P T (mkF m pc' L (.long (-x) :: S))) : own_E p e below P T (mkF m pc L (.long x :: S)) := by
  subst hp
  exact own_go (fun t k => XS.lneg X.here C.1 rfl (hb C.2.1 hd) rfl k) K
theorem own_i2l (C : own_C p s m c bytes own Z ml) (X : Stand p l e R s m args below meth c T locs cells slots) {x : Int32} (hd : decode bytes pc = .ok (.i2l, 1)) (hp : pc + 1 = pc') (K : own_E p e below P T (mkF m pc' L (.long x.toInt64 :: S))) : own_E p e below P T (mkF m pc L (.int x :: S)) := by
  subst hp
  exact own_go (fun t k => XS.i2l X.here C.1 rfl (hb C.2.1 hd) rfl k) K
theorem own_l2i (C : own_C p s m c bytes own Z ml) (X : Stand p l e R s m args below meth c T locs cells slots) {x : Int64} (hd : decode bytes pc = .ok (.l2i, 1)) (hp : pc + 1 = pc') (K : own_E p e below P T (mkF m pc' L (.int x.toInt32 :: S))) : own_E p e below P T (mkF m pc L (.long x :: S)) := by
  subst hp
  exact own_go (fun t k => XS.l2i X.here C.1 rfl (hb C.2.1 hd) rfl k) K
theorem own_i2b (C : own_C p s m c bytes own Z ml) (X : Stand p l e R s m args below meth c T locs cells slots) {x : Int32} (hd : decode bytes pc = .ok (.i2b, 1)) (hp : pc + 1 = pc') (K : own_E p e below P T (mkF m pc' L (.int x.toInt8.toInt32 :: S))) : own_E p e below P T (mkF m pc L (.int x :: S)) := by
  subst hp
  exact own_go (fun t k => XS.i2b X.here C.1 rfl (hb C.2.1 hd) rfl k) K
theorem own_i2c (C : own_C p s m c bytes own Z ml) (X : Stand p l e R s m args below meth c T locs cells slots) {x : Int32} (hd : decode bytes pc = .ok (.i2c, 1)) (hp : pc + 1 = pc') (K : own_E p e below P T (mkF m pc' L (.int x.toUInt32.toUInt16.toUInt32.toInt32 :: S))) : own_E p e below P T (mkF m pc L (.int x :: S)) := by
  subst hp
  exact own_go (fun t k => XS.i2c X.here C.1 rfl (hb C.2.1 hd) rfl k) K
theorem own_dup (C : own_C p s m c bytes own Z ml) (X : Stand p l e R s m args below meth c T locs cells slots) {x : Value} (hd : decode bytes pc = .ok (.dup, 1)) (hc : x.category = 1) (hp : pc + 1 = pc') (K : own_E p e below P T (mkF m pc' L (x :: x :: S))) : own_E p e below P T (mkF m pc L (x :: S)) := by
  subst hp
  exact own_go (fun t k => XS.dup X.here C.1 rfl (hb C.2.1 hd) rfl hc k) K
theorem own_pop (C : own_C p s m c bytes own Z ml) (X : Stand p l e R s m args below meth c T locs cells slots) {x : Value} (hd : decode bytes pc = .ok (.pop, 1)) (hc : x.category = 1) (hp : pc + 1 = pc') (K : own_E p e below P T (mkF m pc' L S)) : own_E p e below P T (mkF m pc L (x :: S)) := by
  subst hp
  exact own_go (fun t k => XS.pop X.here C.1 rfl (hb C.2.1 hd) rfl hc k) K
theorem own_lcmp (C : own_C p s m c bytes own Z ml) (X : Stand p l e R s m args below meth c T locs cells slots) {x y : Int64} (hd : decode bytes pc = .ok (.lcmp, 1)) (hp : pc + 1 = pc') (K : own_E p e below P T (mkF m pc' L (.int (lcmpW x y) :: S))) : own_E p e below P T (mkF m pc L (.long y :: .long x :: S)) := by
  subst hp
  exact own_go (fun t k => XS.lcmp X.here C.1 rfl (hb C.2.1 hd) rfl k) K
theorem own_irem (C : own_C p s m c bytes own Z ml) (X : Stand p l e R s m args below meth c T locs cells slots) {x y : Int32} (hy : y ≠ 0) (hd : decode bytes pc = .ok (.irem, 1)) (hp : pc + 1 = pc') (K : own_E p e below P T (mkF m pc' L (.int (x % y) :: S))) : own_E p e below P T (mkF m pc L (.int y :: .int x :: S)) := by
  subst hp
  exact own_go (fun t k => iremM X C.1 rfl (hb C.2.1 hd) rfl hy k) K
theorem own_goto (C : own_C p s m c bytes own Z ml) (X : Stand p l e R s m args below meth c T locs cells slots) {o : Int} (hd : decode bytes pc = .ok (.goto o, 3)) (ho : 0 ≤ (pc : Int) + o) (hp : ((pc : Int) + o).toNat = pc') (K : own_E p e below P T (mkF m pc' L S)) : own_E p e below P T (mkF m pc L S) := by
  exact own_go (fun t k => XS.goto X.here C.1 rfl rfl (hb C.2.1 hd) ho hp k) K
theorem own_ifY (C : own_C p s m c bytes own Z ml) (X : Stand p l e R s m args below meth c T locs cells slots) {cd : ClassFile.Cond} {x : Int32} {o : Int} (hd : decode bytes pc = .ok (.ifCond cd o, 3)) (hc : ifCond.holds cd x = true) (ho : 0 ≤ (pc : Int) + o) (hp : ((pc : Int) + o).toNat = pc') (K : own_E p e below P T (mkF m pc' L S)) : own_E p e below P T (mkF m pc L (.int x :: S)) := by
  exact own_go (fun t k => XS.ifYes X.here C.1 rfl rfl (hb C.2.1 hd) rfl hc ho hp k) K
theorem own_ifN (C : own_C p s m c bytes own Z ml) (X : Stand p l e R s m args below meth c T locs cells slots) {cd : ClassFile.Cond} {x : Int32} {o : Int} (hd : decode bytes pc = .ok (.ifCond cd o, 3)) (hc : ifCond.holds cd x = false) (hp : pc + 3 = pc') (K : own_E p e below P T (mkF m pc' L S)) : own_E p e below P T (mkF m pc L (.int x :: S)) := by
  subst hp
  exact own_go (fun t k => XS.ifNo X.here C.1 rfl (hb C.2.1 hd) rfl hc k) K
theorem own_icmpY (C : own_C p s m c bytes own Z ml) (X : Stand p l e R s m args below meth c T locs cells slots) {cd : ClassFile.Cond} {x y : Int32} {o : Int} (hd : decode bytes pc = .ok (.if_icmp cd o, 3)) (hc : if_icmp.holds cd x y = true) (ho : 0 ≤ (pc : Int) + o) (hp : ((pc : Int) + o).toNat = pc') (K : own_E p e below P T (mkF m pc' L S)) : own_E p e below P T (mkF m pc L (.int y :: .int x :: S)) := by
  exact own_go (fun t k => XS.icmpYes X.here C.1 rfl rfl (hb C.2.1 hd) rfl hc ho hp k) K
theorem own_icmpN (C : own_C p s m c bytes own Z ml) (X : Stand p l e R s m args below meth c T locs cells slots) {cd : ClassFile.Cond} {x y : Int32} {o : Int} (hd : decode bytes pc = .ok (.if_icmp cd o, 3)) (hc : if_icmp.holds cd x y = false) (hp : pc + 3 = pc') (K : own_E p e below P T (mkF m pc' L S)) : own_E p e below P T (mkF m pc L (.int y :: .int x :: S)) := by
  subst hp
  exact own_go (fun t k => XS.icmpNo X.here C.1 rfl (hb C.2.1 hd) rfl hc k) K
theorem own_lswY (C : own_C p s m c bytes own Z ml) (X : Stand p l e R s m args below meth c T locs cells slots) {z : Int32} {d : Int} {ps : Array (Int × Int)} {len : Nat} {a off : Int} (hd : decode bytes pc = .ok (.lookupswitch d ps, len)) (hs : (ps.toList.zip (ps.toList.drop 1)).all (fun (a, next) => a.1 < next.1) = true) (hf : ps.find? (·.1 == z.toInt) = some (a, off)) (ho : 0 ≤ (pc : Int) + off) (hp : ((pc : Int) + off).toNat = pc') (K : own_E p e below P T (mkF m pc' L S)) : own_E p e below P T (mkF m pc L (.int z :: S)) := by
  subst hp
  exact own_go (fun t k => X.lookupswitchHit C.1 (g := mkF m pc L (.int z :: S)) rfl rfl (hb C.2.1 hd) hs hf ho t k) K
theorem own_lswN (C : own_C p s m c bytes own Z ml) (X : Stand p l e R s m args below meth c T locs cells slots) {z : Int32} {d : Int} {ps : Array (Int × Int)} {len : Nat} (hd : decode bytes pc = .ok (.lookupswitch d ps, len)) (hs : (ps.toList.zip (ps.toList.drop 1)).all (fun (a, next) => a.1 < next.1) = true) (hf : ps.find? (·.1 == z.toInt) = none) (ho : 0 ≤ (pc : Int) + d) (hp : ((pc : Int) + d).toNat = pc') (K : own_E p e below P T (mkF m pc' L S)) : own_E p e below P T (mkF m pc L (.int z :: S)) := by
  subst hp
  exact own_go (fun t k => X.lookupswitchMiss C.1 (g := mkF m pc L (.int z :: S)) rfl rfl (hb C.2.1 hd) hs hf ho t k) K
theorem own_ldcI (C : own_C p s m c bytes own Z ml) (X : Stand p l e R s m args below meth c T locs cells slots) {i : Nat} {v : Int32} (w : (Cond.constant own i v).before a0 Z = true) (hd : decode bytes pc = .ok (.ldc i, 2)) (hp : pc + 2 = pc') (K : own_E p e below P T (mkF m pc' L (.int v :: S))) : own_E p e below P T (mkF m pc L S) := by
  subst hp
  exact own_go (fun t k => X.ldcInt C.1 C.2.2.2.1 (mvT C.2.2.1 w) (g := mkF m pc L S) rfl (hb C.2.1 hd) t k) K
theorem own_ldcJ (C : own_C p s m c bytes own Z ml) (X : Stand p l e R s m args below meth c T locs cells slots) {i : Nat} {v : Int64} (w : (Cond.constantLong own i v).before a0 Z = true) (hd : decode bytes pc = .ok (.ldc2_w i, 3)) (hp : pc + 3 = pc') (K : own_E p e below P T (mkF m pc' L (.long v :: S))) : own_E p e below P T (mkF m pc L S) := by
  subst hp
  exact own_go (fun t k => X.ldc2Long C.1 C.2.2.2.1 (mvT C.2.2.1 w) (g := mkF m pc L S) rfl (hb C.2.1 hd) t k) K
theorem own_iaload (C : own_C p s m c bytes own Z ml) (X : Stand p l e R s m args below meth c T locs cells slots) {a : Addr} {cl : Cell} {j : Int32} {v : Value} (eT : T.heap = h) (A : Arr Z h a cl .int) (hj : ¬ (j < 0 ∨ cl.slots.size ≤ j.toNatClampNeg)) (hv : cl.slots[j.toNatClampNeg]? = some v) (hd : decode bytes pc = .ok (.iaload, 1)) (hp : pc + 1 = pc') (K : own_E p e below P T (mkF m pc' L (v :: S))) : own_E p e below P T (mkF m pc L (.int j :: .ref a :: S)) := by
  subst hp
  exact own_go (fun t k => X.iaload C.1 (by rw [eT]; exact A.1) (State.isArrayOf_alike C.2.2.1.alike A.2.1) A.2.2 hj hv (g := mkF m pc L (.int j :: .ref a :: S)) rfl rfl (hb C.2.1 hd) t k) K
theorem own_laload (C : own_C p s m c bytes own Z ml) (X : Stand p l e R s m args below meth c T locs cells slots) {a : Addr} {cl : Cell} {j : Int32} {v : Value} (eT : T.heap = h) (A : Arr Z h a cl .long) (hj : ¬ (j < 0 ∨ cl.slots.size ≤ j.toNatClampNeg)) (hv : cl.slots[j.toNatClampNeg]? = some v) (hd : decode bytes pc = .ok (.laload, 1)) (hp : pc + 1 = pc') (K : own_E p e below P T (mkF m pc' L (v :: S))) : own_E p e below P T (mkF m pc L (.int j :: .ref a :: S)) := by
  subst hp
  exact own_go (fun t k => X.laload C.1 (by rw [eT]; exact A.1) (State.isArrayOf_alike C.2.2.1.alike A.2.1) A.2.2 hj hv (g := mkF m pc L (.int j :: .ref a :: S)) rfl rfl (hb C.2.1 hd) t k) K
theorem own_baload (C : own_C p s m c bytes own Z ml) (X : Stand p l e R s m args below meth c T locs cells slots) {a : Addr} {cl : Cell} {j : Int32} {v : Value} (eT : T.heap = h) (A : Arr Z h a cl .byte) (hj : ¬ (j < 0 ∨ cl.slots.size ≤ j.toNatClampNeg)) (hv : cl.slots[j.toNatClampNeg]? = some v) (hd : decode bytes pc = .ok (.baload, 1)) (hp : pc + 1 = pc') (K : own_E p e below P T (mkF m pc' L (v :: S))) : own_E p e below P T (mkF m pc L (.int j :: .ref a :: S)) := by
  subst hp
  exact own_go (fun t k => X.baloadBytes C.1 (by rw [eT]; exact A.1) (State.isArrayOf_alike C.2.2.1.alike A.2.1) A.2.2 hj hv (g := mkF m pc L (.int j :: .ref a :: S)) rfl rfl (hb C.2.1 hd) t k) K
theorem own_alen (C : own_C p s m c bytes own Z ml) (X : Stand p l e R s m args below meth c T locs cells slots) {a : Addr} {cl : Cell} {ty : FieldType} {z : Int32} (eT : T.heap = h) (A : Arr Z h a cl ty) (hz : cl.slots.size.toInt32 = z) (hd : decode bytes pc = .ok (.arraylength, 1)) (hp : pc + 1 = pc') (K : own_E p e below P T (mkF m pc' L (.int z :: S))) : own_E p e below P T (mkF m pc L (.ref a :: S)) := by
  subst hp hz
  exact own_go (fun t k => X.arraylength C.1 (by rw [eT]; exact A.1) (State.isArrayOf_alike C.2.2.1.alike A.2.1) (g := mkF m pc L (.ref a :: S)) rfl rfl (hb C.2.1 hd) t k) K
theorem own_iastore (C : own_C p s m c bytes own Z ml) (X : Stand p l e R s m args below meth c T locs cells slots) {a : Addr} {cl : Cell} {j : Int32} {x : Int32} (eT : T.heap = h) (A : Arr Z h a cl .int) (hj : ¬ (j < 0 ∨ cl.slots.size ≤ j.toNatClampNeg)) (hd : decode bytes pc = .ok (.iastore, 1)) (hp : pc + 1 = pc') (K : ∀ T' h', Stand p l e R s m args below meth c T' (locs ++ [⟨a, j.toNatClampNeg⟩]) cells slots → T'.heap = h' → Wr h h' a j.toNatClampNeg (.int x) → Arr Z h' a (cl.setSlot j.toNatClampNeg (.int x)) .int → own_E p e below P T' (mkF m pc' L S)) : own_E p e below P T (mkF m pc L (.int x :: .int j :: .ref a :: S)) := by
  subst hp
  obtain ⟨T', h', X', e', W', st⟩ := stI X C.1 C.2.2.1 eT A hj (g := mkF m pc L (.int x :: .int j :: .ref a :: S)) rfl rfl (hb C.2.1 hd)
  exact own_go st (K T' h' X' e' W' (A.same W'))
theorem own_lastore (C : own_C p s m c bytes own Z ml) (X : Stand p l e R s m args below meth c T locs cells slots) {a : Addr} {cl : Cell} {j : Int32} {x : Int64} (eT : T.heap = h) (A : Arr Z h a cl .long) (hj : ¬ (j < 0 ∨ cl.slots.size ≤ j.toNatClampNeg)) (hd : decode bytes pc = .ok (.lastore, 1)) (hp : pc + 1 = pc') (K : ∀ T' h', Stand p l e R s m args below meth c T' (locs ++ [⟨a, j.toNatClampNeg⟩]) cells slots → T'.heap = h' → Wr h h' a j.toNatClampNeg (.long x) → Arr Z h' a (cl.setSlot j.toNatClampNeg (.long x)) .long → own_E p e below P T' (mkF m pc' L S)) : own_E p e below P T (mkF m pc L (.long x :: .int j :: .ref a :: S)) := by
  subst hp
  obtain ⟨T', h', X', e', W', st⟩ := stJ X C.1 C.2.2.1 eT A hj (g := mkF m pc L (.long x :: .int j :: .ref a :: S)) rfl rfl (hb C.2.1 hd)
  exact own_go st (K T' h' X' e' W' (A.same W'))
theorem own_bastore (C : own_C p s m c bytes own Z ml) (X : Stand p l e R s m args below meth c T locs cells slots) {a : Addr} {cl : Cell} {j : Int32} {x : Int32} (eT : T.heap = h) (A : Arr Z h a cl .byte) (hj : ¬ (j < 0 ∨ cl.slots.size ≤ j.toNatClampNeg)) (hd : decode bytes pc = .ok (.bastore, 1)) (hp : pc + 1 = pc') (K : ∀ T' h', Stand p l e R s m args below meth c T' (locs ++ [⟨a, j.toNatClampNeg⟩]) cells slots → T'.heap = h' → Wr h h' a j.toNatClampNeg (.int (nar .byte x)) → Arr Z h' a (cl.setSlot j.toNatClampNeg (.int (nar .byte x))) .byte → own_E p e below P T' (mkF m pc' L S)) : own_E p e below P T (mkF m pc L (.int x :: .int j :: .ref a :: S)) := by
  subst hp
  obtain ⟨T', h', X', e', W', st⟩ := stB X C.1 C.2.2.1 eT A hj (g := mkF m pc L (.int x :: .int j :: .ref a :: S)) rfl rfl (hb C.2.1 hd)
  exact own_go st (K T' h' X' e' W' (A.same W'))
theorem own_newP (C : own_C p s m c bytes own Z ml) (X : Stand p l e R s m args below meth c T locs cells slots) {aty : ArrayType} {n : Int32} (cap : Nat) (w : (Cond.arrayClass (newarray.typeOf aty)).before a0 Z = true) (eT : T.heap = h) (hn : ¬ n < 0) (hcap : n.toNatClampNeg ≤ cap) (hb8 : cap * 8 ≤ 536870912) (hc : cells + 1 ≤ R.cells) (hl : slots + cap ≤ R.slots) (hd : decode bytes pc = .ok (.newarray aty, 2)) (hp : pc + 2 = pc') (K : ∀ T' h' a cA, Stand p l e R s m args below meth c T' locs (cells + 1) (slots + cap) → T'.heap = h' → a = h.size → Ext h h' → Arr Z h' a (newA cA (newarray.typeOf aty) n) (newarray.typeOf aty) → own_E p e below P T' (mkF m pc' L (.ref a :: S))) : own_E p e below P T (mkF m pc L (.int n :: S)) := by
  subst hp
  obtain ⟨T', h', cA, X', e', E', A', st⟩ := newP X C.1 C.2.2.1 w eT (g := mkF m pc L (.int n :: S)) rfl (hb C.2.1 hd) rfl hn (cap := cap) hcap hb8 hc hl
  exact own_go st (K T' h' _ cA X' e' rfl E' A')
theorem own_newO (C : own_C p s m c bytes own Z ml) (X : Stand p l e R s m args below meth c T locs cells slots) {Cn : String} {i n : Nat} (w : (Cond.classLink own i Cn).before a0 Z = true) (wi : (Cond.instantiable Cn n).before a0 Z = true) (wz : (Cond.initialized Cn).before a0 Z = true) (eT : T.heap = h) (hc : cells + 1 ≤ R.cells) (hl : slots + n ≤ R.slots) (hd : decode bytes pc = .ok (.new i, 3)) (hp : pc + 3 = pc') (K : ∀ T' h' a, Stand p l e R s m args below meth c T' locs (cells + 1) (slots + n) → T'.heap = h' → a = h.size → Ext h h' → Exa Z h' a Cn → (∀ {O nm d : String} {ty : FieldType}, Laid Z a0 Cn O nm d → parseFieldDescriptor d = some ty → Fld Z h' a O nm d (defaultValue ty)) → own_E p e below P T' (mkF m pc' L (.ref a :: S))) : own_E p e below P T (mkF m pc L S) := by
  subst hp
  obtain ⟨T', h', X', e', E', A', D', -, st⟩ := newO X C.1 C.2.2.1 C.2.2.2.1 w wi wz eT (g := mkF m pc L S) rfl (hb C.2.1 hd) hc hl
  exact own_go st (K T' h' _ X' e' rfl E' A' D')
theorem own_getF (C : own_C p s m c bytes own Z ml) (X : Stand p l e R s m args below meth c T locs cells slots) {R0 O n d : String} {i : Nat} {a : Addr} {v : Value} (w : (Cond.fieldLink own i R0 n d).before a0 Z = true) (via : Via Z R0 O n d) (eT : T.heap = h) (F : Fld Z h a O n d v) (hd : decode bytes pc = .ok (.getfield i, 3)) (hp : pc + 3 = pc') (K : ∀ T', Stand p l e R s m args below meth c T' locs cells slots → T'.heap = h → own_E p e below P T' (mkF m pc' L (v :: S))) : own_E p e below P T (mkF m pc L (.ref a :: S)) := by
  subst hp
  obtain ⟨T', X', e', st⟩ := getF X C.1 C.2.2.1 C.2.2.2.1 (host := "") (Or.inl w) via eT F (g := mkF m pc L (.ref a :: S)) rfl rfl (hb C.2.1 hd)
  exact own_go st (K T' X' e')
theorem own_putF (C : own_C p s m c bytes own Z ml) (X : Stand p l e R s m args below meth c T locs cells slots) {R0 O n d Cn : String} {i kk : Nat} {ty : FieldType} {a : Addr} {v old : Value} (w : (Cond.fieldLink own i R0 n d).before a0 Z = true) (via : Via Z R0 O n d) (eT : T.heap = h) (F : Fld Z h a O n d old) (Ex : Exa Z h a Cn) (Ly : (Cond.lays Cn O n d).before a0 Z = true ∨ ((Cond.laysFinal Cn O n d).before a0 Z = true ∧ own = O ∧ meth.name = "<init>")) (wi : (Cond.instantiable Cn kk).before a0 Z = true) (hty : parseFieldDescriptor d = some ty) (hn : narrow ty v = v) (hf : fits ty v = true) (hd : decode bytes pc = .ok (.putfield i, 3)) (hp : pc + 3 = pc') (K : ∀ T' h', Stand p l e R s m args below meth c T' (locs ++ [⟨a, Jvm.RoadKit.slotOf Z O n d⟩]) cells slots → T'.heap = h' → Wr h h' a (Jvm.RoadKit.slotOf Z O n d) v → Fld Z h' a O n d v → Exa Z h' a Cn → own_E p e below P T' (mkF m pc' L S)) : own_E p e below P T (mkF m pc L (v :: .ref a :: S)) := by
  subst hp
  obtain ⟨T', h', X', e', W', st⟩ := putF X C.1 C.2.2.1 C.2.2.2.1 (host := "") (Or.inl w) via eT F Ex Ly wi hty hn hf (g := mkF m pc L (v :: .ref a :: S)) rfl rfl (hb C.2.1 hd)
  exact own_go st (K T' h' X' e' W' (F.same W') (Ex.wr W'))
theorem own_callS (C : own_C p s m c bytes own Z ml) (X : Stand p l e R s m args below meth c T locs cells slots) {y : MethodName} {i mL : Nat} {cb : ByteArray} {rt : Option FieldType} {rm : Room} {as' : Array Value} {Q : Option Value → Heap → List Loc → Prop} {r : Value} (W : Nat) (argsL : List Value) (w1 : (Cond.methodLink own i y).before a0 Z = true) (w2 : (Cond.static y).before a0 Z = true) (w3 : (Cond.initialized y.cls).before a0 Z = true) (w4 : (Cond.code y cb mL rt).before a0 Z = true) (hy : y.cls ≠ "java/lang/invoke/MethodHandle" ∧ y.cls ≠ "java/lang/invoke/VarHandle") (eT : T.heap = h) (hM : MetFree l y (head1 [Cond.code y cb mL rt] rm) (fun a U => a = as' ∧ Z.Warmed39 U.vm ∧ U.heap = h) (fun _ _ _ _ _ => True) (fun _ U o U' => ∃ v L, o = .returned v ∧ Q v U'.heap L ∧ FrameEnd U o U' L rm.cells rm.slots)) (ha : argsL.toArray = as') (hf : rm.frames + 1 ≤ R.frames) (hlo : W + (mL + 11) + rm.locals ≤ R.locals) (hsz : L.size = ml) (hlen : ∀ sig, parseMethodDescriptor y.desc = some sig → argsL.length = sig.parameters.length) {S' : List Value} (hS : S' = argsL.reverse ++ S) (hW : (S.map fun v => v.category).sum ≤ W) (hc : cells + rm.cells ≤ R.cells) (hs : slots + rm.slots ≤ R.slots) (hd : decode bytes pc = .ok (.invokestatic i, 3)) (hp : pc + 3 = pc') (hr : ∀ v h L, Q v h L → v = some r) (K : ∀ T' Lc, Stand p l e R s m args below meth c T' (locs ++ Lc) (cells + rm.cells) (slots + rm.slots) → Q (some r) T'.heap Lc → own_E p e below P T' (mkF m pc' L (r :: S))) : own_E p e below P T (mkF m pc L S') := by
  subst hp hS ha
  obtain ⟨v, _, ⟨T', L1, k1, n1⟩, -, X', ⟨Lc, hQ, l1, y1, z1⟩, st⟩ := Jvm.LawKit.callS X C.1 (y := y) C.2.2.2.1 (mvT C.2.2.1 w1) (mvT C.2.2.1 w2) (mvT C.2.2.1 w3) (mvT C.2.2.1 w4) hy (backOf (W := W) hM C.2.2.1 w4 w3 hf hlo) (g := mkF m pc L (argsL.reverse ++ S)) rfl (hsz.trans C.2.2.2.2.symm) (argsL := argsL) (rest := S) hlen rfl (by show 2 * 0 + _ ≤ _; omega) (hb C.2.1 hd) (fun _ _ => ⟨rfl, eT, hc, hs⟩)
  dsimp only [Pt.U, Pt.locs, Pt.cells, Pt.slots] at X' l1 y1 z1 st hQ
  subst l1 y1 z1
  cases hr _ _ _ hQ
  exact own_go st (K T' Lc X' hQ)
theorem own_callI (C : own_C p s m c bytes own Z ml) (X : Stand p l e R s m args below meth c T locs cells slots) {y : MethodName} {i mL : Nat} {cb : ByteArray} {rm : Room} {as' : Array Value} {Q : Option Value → Heap → List Loc → Prop} {b : Addr} (W : Nat) (argsL : List Value) (w1 : (Cond.methodLink own i y).before a0 Z = true) (hy1 : y.name = "<init>") (w2 : (Cond.instanceMethod y).before a0 Z = true) (w3 : (Cond.initialized y.cls).before a0 Z = true) (w4 : (Cond.code y cb mL none).before a0 Z = true) (hy : y.cls ≠ "java/lang/invoke/MethodHandle" ∧ y.cls ≠ "java/lang/invoke/VarHandle") (eT : T.heap = h) (hM : MetFree l y (head1 [Cond.code y cb mL none] rm) (fun a U => a = as' ∧ Z.Warmed39 U.vm ∧ U.heap = h) (fun _ _ _ _ _ => True) (fun _ U o U' => ∃ v L, o = .returned v ∧ Q v U'.heap L ∧ FrameEnd U o U' L rm.cells rm.slots)) (ha : (.ref b :: argsL).toArray = as') (hf : rm.frames + 1 ≤ R.frames) (hlo : W + (mL + 11) + rm.locals ≤ R.locals) (hsz : L.size = ml) (hlen : ∀ sig, parseMethodDescriptor y.desc = some sig → argsL.length = sig.parameters.length) {S' : List Value} (hS : S' = argsL.reverse ++ .ref b :: S) (hW : (S.map fun v => v.category).sum ≤ W) (hc : cells + rm.cells ≤ R.cells) (hs : slots + rm.slots ≤ R.slots) (hd : decode bytes pc = .ok (.invokespecial i, 3)) (hp : pc + 3 = pc') (hr : ∀ v h L, Q v h L → v = none) (K : ∀ T' Lc, Stand p l e R s m args below meth c T' (locs ++ Lc) (cells + rm.cells) (slots + rm.slots) → Q (none) T'.heap Lc → own_E p e below P T' (mkF m pc' L S)) : own_E p e below P T (mkF m pc L S') := by
  subst hp hS ha
  obtain ⟨v, _, ⟨T', L1, k1, n1⟩, -, X', ⟨Lc, hQ, l1, y1, z1⟩, st⟩ := X.specialBack C.1 (y := y) hy1 C.2.2.2.1 (mvT C.2.2.1 w1) (mvT C.2.2.1 w2) (mvT C.2.2.1 w4) hy (backOf (W := W) hM C.2.2.1 w4 w3 hf hlo) (g := mkF m pc L (argsL.reverse ++ .ref b :: S)) rfl (hsz.trans C.2.2.2.2.symm) (Steps.refl _) (a := b) (argsL := argsL) (rest := S) hlen rfl (by show 2 * 0 + _ ≤ _; omega) (hb C.2.1 hd) (fun _ _ => ⟨rfl, eT, hc, hs⟩)
  dsimp only [Pt.U, Pt.locs, Pt.cells, Pt.slots] at X' l1 y1 z1 st hQ
  subst l1 y1 z1
  cases hr _ _ _ hQ
  obtain ⟨t, o, h1, h2⟩ := K T' Lc X' hQ
  exact ⟨t, o, st.trans h1, h2⟩
theorem own_callV (C : own_C p s m c bytes own Z ml) (X : Stand p l e R s m args below meth c T locs cells slots) {y : MethodName} {i mL : Nat} {cb : ByteArray} {rt : Option FieldType} {rm : Room} {as' : Array Value} {Q : Option Value → Heap → List Loc → Prop} {b : Addr} {Cn : String} {r : Value} (W : Nat) (argsL : List Value) (w1 : (Cond.methodLink own i y).before a0 Z = true) (w2 : (Cond.declares y).before a0 Z = true) (w5 : (Cond.selects Cn y y).before a0 Z = true) (w6 : (Cond.instanceMethod y).before a0 Z = true) (w3 : (Cond.initialized y.cls).before a0 Z = true) (w4 : (Cond.code y cb mL rt).before a0 Z = true) (Ex : Exa Z h b Cn) (hy : y.cls ≠ "java/lang/invoke/MethodHandle" ∧ y.cls ≠ "java/lang/invoke/VarHandle") (eT : T.heap = h) (hM : MetFree l y (head1 [Cond.code y cb mL rt] rm) (fun a U => a = as' ∧ Z.Warmed39 U.vm ∧ U.heap = h) (fun _ _ _ _ _ => True) (fun _ U o U' => ∃ v L, o = .returned v ∧ Q v U'.heap L ∧ FrameEnd U o U' L rm.cells rm.slots)) (ha : (.ref b :: argsL).toArray = as') (hf : rm.frames + 1 ≤ R.frames) (hlo : W + (mL + 11) + rm.locals ≤ R.locals) (hsz : L.size = ml) (hlen : ∀ sig, parseMethodDescriptor y.desc = some sig → argsL.length = sig.parameters.length) {S' : List Value} (hS : S' = argsL.reverse ++ .ref b :: S) (hW : (S.map fun v => v.category).sum ≤ W) (hc : cells + rm.cells ≤ R.cells) (hs : slots + rm.slots ≤ R.slots) (hd : decode bytes pc = .ok (.invokevirtual i, 3)) (hp : pc + 3 = pc') (hr : ∀ v h L, Q v h L → v = some r) (K : ∀ T' Lc, Stand p l e R s m args below meth c T' (locs ++ Lc) (cells + rm.cells) (slots + rm.slots) → Q (some r) T'.heap Lc → own_E p e below P T' (mkF m pc' L (r :: S))) : own_E p e below P T (mkF m pc L S') := by
  subst hp hS ha
  obtain ⟨cq, kq, qa, qb, qc⟩ := isOf C.2.2.1 eT Ex
  obtain ⟨v, _, ⟨T', L1, k1, n1⟩, -, X', ⟨Lc, hQ, l1, y1, z1⟩, st⟩ := X.virtualBack C.1 (y := y) (z := y) C.2.2.2.1 (mvT C.2.2.1 w1) (mvT C.2.2.1 w2) (notFace_of_selects (args := #[]) (mvT C.2.2.1 w5)) (mvT C.2.2.1 w5) (mvT C.2.2.1 w6) hy (backOf (W := W) hM C.2.2.1 w4 w3 hf hlo) qa qc (g := mkF m pc L (argsL.reverse ++ .ref b :: S)) rfl (hsz.trans C.2.2.2.2.symm) (Steps.refl _) (argsL := argsL) (rest := S) hlen rfl (by show 2 * 0 + _ ≤ _; omega) (hb C.2.1 hd) (fun _ _ => ⟨rfl, eT, hc, hs⟩)
  dsimp only [Pt.U, Pt.locs, Pt.cells, Pt.slots] at X' l1 y1 z1 st hQ
  subst l1 y1 z1
  cases hr _ _ _ hQ
  obtain ⟨t, o, h1, h2⟩ := K T' Lc X' hQ
  exact ⟨t, o, st.trans h1, h2⟩
theorem own_retI (C : own_C p s m c bytes own Z ml) (X : Stand p l e R s m args below meth c T locs cells slots) {Q : Option Value → Heap → List Loc → Prop} {k n : Nat} {z : Int32} (hret : meth.sig.returnType = some .int) (hl : meth.locks = false) (hk : cells ≤ k) (hn : slots ≤ n) (hd : decode bytes pc = .ok (.ireturn, 1)) (hQ : Q (some (.int z)) T.heap locs) : own_E p e below (own_R s below Q k n) T (mkF m pc L (.int z :: S)) := by
  obtain ⟨fs, hr, hrun, hended, hW, hsame⟩ := X.leave (v := some (.int z)) (fun h => by rw [hret] at h; cases h) hl
  exact ⟨_, _, retOut X C.1 hret rfl (Or.inl ⟨rfl, Or.inl rfl, _, rfl⟩) (hb C.2.1 hd) hr, hrun, hended, _, _, rfl, hQ, ⟨_, rfl⟩, hW, hsame.mono hk hn⟩
theorem own_retJ (C : own_C p s m c bytes own Z ml) (X : Stand p l e R s m args below meth c T locs cells slots) {Q : Option Value → Heap → List Loc → Prop} {k n : Nat} {z : Int64} (hret : meth.sig.returnType = some .long) (hl : meth.locks = false) (hk : cells ≤ k) (hn : slots ≤ n) (hd : decode bytes pc = .ok (.lreturn, 1)) (hQ : Q (some (.long z)) T.heap locs) : own_E p e below (own_R s below Q k n) T (mkF m pc L (.long z :: S)) := by
  obtain ⟨fs, hr, hrun, hended, hW, hsame⟩ := X.leave (v := some (.long z)) (fun h => by rw [hret] at h; cases h) hl
  exact ⟨_, _, retOut X C.1 hret rfl (Or.inr (Or.inl ⟨rfl, rfl, _, rfl⟩)) (hb C.2.1 hd) hr, hrun, hended, _, _, rfl, hQ, ⟨_, rfl⟩, hW, hsame.mono hk hn⟩
theorem own_retN (C : own_C p s m c bytes own Z ml) (X : Stand p l e R s m args below meth c T locs cells slots) {Q : Option Value → Heap → List Loc → Prop} {k n : Nat} {z : Int32} {t : FieldType} (hret : meth.sig.returnType = some t) (ht : t = .boolean ∨ t = .byte ∨ t = .char ∨ t = .short) (hl : meth.locks = false) (hk : cells ≤ k) (hn : slots ≤ n) (hd : decode bytes pc = .ok (.ireturn, 1)) (hQ : Q (some (.int (nar t z))) T.heap locs) : own_E p e below (own_R s below Q k n) T (mkF m pc L (.int z :: S)) := by
  obtain ⟨fs, hr, hrun, hended, hW, hsame⟩ := X.leave (v := some (.int (nar t z))) (fun h => by rw [hret] at h; cases h) hl
  exact ⟨_, _, retN X C.1 hret ht (hb C.2.1 hd) hr, hrun, hended, _, _, rfl, hQ, ⟨_, rfl⟩, hW, hsame.mono hk hn⟩
theorem own_retV (C : own_C p s m c bytes own Z ml) (X : Stand p l e R s m args below meth c T locs cells slots) {Q : Option Value → Heap → List Loc → Prop} {k n : Nat} (hret : meth.sig.returnType = none) (hl : meth.locks = false) (hk : cells ≤ k) (hn : slots ≤ n) (hd : decode bytes pc = .ok (.return_, 1)) (hQ : Q none T.heap locs) : own_E p e below (own_R s below Q k n) T (mkF m pc L []) := by
  obtain ⟨fs, hr, hrun, hended, hW, hsame⟩ := X.leave (v := none) (fun _ => rfl) hl
  exact ⟨_, _, X.returnOut C.1 hret (hb C.2.1 hd) hr, hrun, hended, _, _, rfl, hQ, ⟨_, rfl⟩, hW, hsame.mono hk hn⟩
theorem own_iinc (C : own_C p s m c bytes own Z ml) (X : Stand p l e R s m args below meth c T locs cells slots) {k : Nat} {ct : Int} {v : Int32} (hd : decode bytes pc = .ok (.iinc k ct, 3)) (hl : L[k]? = some (.val (.int v))) (hl' : storeLocals L k (.int (v + Int32.ofInt ct)) = some L') (hp : pc + 3 = pc') (K : own_E p e below P T (mkF m pc' L' S)) : own_E p e below P T (mkF m pc L S) := by
  subst hp
  exact own_go (fun t k => XS.iinc X.here C.1 rfl (hb C.2.1 hd) hl hl' k) K
theorem own_ldcwI (C : own_C p s m c bytes own Z ml) (X : Stand p l e R s m args below meth c T locs cells slots) {i : Nat} {v : Int32} (w : (Cond.constant own i v).before a0 Z = true) (hd : decode bytes pc = .ok (.ldc_w i, 3)) (hp : pc + 3 = pc') (K : own_E p e below P T (mkF m pc' L (.int v :: S))) : own_E p e below P T (mkF m pc L S) := by
  subst hp
  exact own_go (fun t k => X.ldcwInt C.1 C.2.2.2.1 (mvT C.2.2.1 w) (g := mkF m pc L S) rfl (hb C.2.1 hd) t k) K
theorem own_retA (C : own_C p s m c bytes own Z ml) (X : Stand p l e R s m args below meth c T locs cells slots) {Q : Option Value → Heap → List Loc → Prop} {k n : Nat} {z : Addr} {ty : FieldType} (hret : meth.sig.returnType = some (.array ty)) (hl : meth.locks = false) (hk : cells ≤ k) (hn : slots ≤ n) (hd : decode bytes pc = .ok (.areturn, 1)) (hQ : Q (some (.ref z)) T.heap locs) : own_E p e below (own_R s below Q k n) T (mkF m pc L (.ref z :: S)) := by
  obtain ⟨fs, hr, hrun, hended, hW, hsame⟩ := X.leave (v := some (.ref z)) (fun h => by rw [hret] at h; cases h) hl
  exact ⟨_, _, retOut X C.1 hret rfl (Or.inr (Or.inr (Or.inr (Or.inr ⟨rfl, rfl, rfl⟩)))) (hb C.2.1 hd) hr, hrun, hended, _, _, rfl, hQ, ⟨_, rfl⟩, hW, hsame.mono hk hn⟩
theorem own_arrK {a : Addr} {cl : Cell} {ty : FieldType} {h' : Heap} {ws : List Addr} (A : Arr Z h a cl ty) (K : Keep h h' ws) (q : a ∉ ws) : Arr Z h' a cl ty := ⟨K.2.1 a cl A.1 q, A.2⟩
theorem own_ne {a b : Addr} (hl : a < h.size) (g : b = h.size) : a ≠ b := fun q => by rw [q, g] at hl; exact Nat.lt_irrefl _ hl
theorem own_idx {j : Int32} {cl : Cell} {n : Nat} (S : cl.slots.size = n) (h0 : 0 ≤ j.toInt) (h1 : j.toInt < n) : ¬ (j < 0 ∨ cl.slots.size ≤ j.toNatClampNeg) := by
  have z : (0 : Int32).toInt = 0 := rfl
  rw [S, Int32.lt_iff_toInt_lt, z]
  simp only [Int32.toNatClampNeg]
  omega
theorem own_set {cl : Cell} {i j : Nat} {v : Value} (hi : i < cl.slots.size) : (cl.setSlot i v).slots[j]? = if i = j then some v else cl.slots[j]? := by
  simp only [Cell.setSlot, Array.getElem?_setIfInBounds]
  split <;> simp [hi]
theorem own_setS {cl : Cell} {i n : Nat} {v : Value} (S : cl.slots.size = n) : (cl.setSlot i v).slots.size = n := by
  simp [Cell.setSlot, S]
theorem own_initO (C : own_C p s m c bytes own Z ml) (X : Stand p l e R s m args below meth c T locs cells slots) {i : Nat} {a : Addr} (W : Nat) (w1 : (Cond.methodLink own i Lib.objectInit).before a0 Z = true) (w2 : (Cond.instanceMethod Lib.objectInit).before a0 Z = true) (w3 : (Cond.code Lib.objectInit object_method_1_code 1 none).before a0 Z = true) (eT : T.heap = h) (hsz : L.size = ml) (hf : 1 ≤ R.frames) (hW : (S.map fun v => v.category).sum ≤ W) (hl : W + 12 ≤ R.locals) (hd : decode bytes pc = .ok (.invokespecial i, 3)) (hp : pc + 3 = pc') (K : ∀ T', Stand p l e R s m args below meth c T' locs cells slots → T'.heap = h → own_E p e below P T' (mkF m pc' L S)) : own_E p e below P T (mkF m pc L (.ref a :: S)) := by
  subst hp
  obtain ⟨T', X', e', st⟩ := initO X C.1 C.2.2.1 C.2.2.2.1 w1 w2 w3 eT (g := mkF m pc L (.ref a :: S)) rfl (hsz.trans C.2.2.2.2.symm) rfl (hb C.2.1 hd) hf (W := W) (by show 2 * 0 + _ ≤ _; omega) hl
  exact own_go st (K T' X' e')
def own_RW (s : State) (below : List Frame) (Q : Option Value → Heap → List Loc → Prop) (k n : Nat) : State → Outcome → Prop := fun t o => t.status = .running ∧ Ended t below o ∧ ∃ v L, o = .returned v ∧ Q v t.heap L ∧ ReturnedEndW s o t L k n
theorem own_ldcS (C : own_C p s m c bytes own Z ml) (X : Stand p l e R s m args below meth c T locs cells slots) {i n : Nat} {text : String} (w : (Cond.stringLink own i text).before a0 Z = true) (wS : ∀ a ∈ Bundle.stringAtoms, a.before a0 Z = true) (eT : T.heap = h) (hn : 4 * text.toList.length ≤ n) (hbig : n ≤ 536870912) (hc : cells + 2 ≤ R.cells) (hl : slots + (n + 4) ≤ R.slots) (hd : decode bytes pc = .ok (.ldc i, 2)) (hp : pc + 2 = pc') (K : ∀ T' h' a k1, own_C p (s.setVm T'.vm) m c bytes own Z ml → Stand p l e R (s.setVm T'.vm) m args below meth c T' locs (cells + 2) (slots + (n + 4)) → T'.heap = h' → Ext h h' → s.Since T'.vm k1 → k1 ≤ h'.size → own_E p e below P T' (mkF m pc' L (.ref a :: S))) : own_E p e below P T (mkF m pc L S) := by
  subst hp
  obtain ⟨a, T', h', k1, X', e', E', hS, hk, hZ', ho', st⟩ := ldcS (s := s) (vm0 := s.vm) X C.1 C.2.2.1 C.2.2.2.1 w wS eT (k0 := 0) ((State.WarmedH.refl s).since 0) (Nat.zero_le _) (g := mkF m pc L S) rfl (hb C.2.1 hd) hn hbig hc hl
  exact own_go st (K T' h' a k1 ⟨C.1, C.2.1, hZ', ho', C.2.2.2.2⟩ X' e' E' hS hk)
theorem own_retNW {vm1 : Vm} {k1 : Nat} (C : own_C p (s.setVm vm1) m c bytes own Z ml) (X : Stand p l e R (s.setVm vm1) m args below meth c T locs cells slots) (hS : s.Since vm1 k1) (hk1 : k1 ≤ T.heap.size) {Q : Option Value → Heap → List Loc → Prop} {k n : Nat} {z : Int32} {t : FieldType} (hret : meth.sig.returnType = some t) (ht : t = .boolean ∨ t = .byte ∨ t = .char ∨ t = .short) (hl : meth.locks = false) (hk : cells ≤ k) (hn : slots ≤ n) (hd : decode bytes pc = .ok (.ireturn, 1)) (hQ : Q (some (.int (nar t z))) T.heap locs) : own_E p e below (own_RW s below Q k n) T (mkF m pc L (.int z :: S)) := by
  obtain ⟨fs, hr, hrun, hended, hW⟩ := X.leaveW hS hk1 (v := some (.int (nar t z))) (fun h => by rw [hret] at h; cases h) hl
  exact ⟨_, _, retN X C.1 hret ht (hb C.2.1 hd) hr, hrun, hended, _, _, rfl, hQ, ⟨_, rfl⟩, hW.2.1, hW.2.2.1, hW.2.2.2.mono hk hn⟩
end Own

def own_max (x y : Int32) : Int32 := if x < y then y else x
theorem own_maxG (x y : Int32) : x.toInt ≤ (own_max x y).toInt := by
  unfold own_max
  split
  · rename_i q
    rw [Int32.lt_iff_toInt_lt] at q
    omega
  · exact Int.le_refl _
theorem own_dd (x y : Int32) : (x.toInt64 - y.toInt64).toInt = x.toInt - y.toInt := by
  have h1 := rng32 x
  have h2 := rng32 y
  have e1 := Jvm.Kit.i64_of_i32 x
  have e2 := Jvm.Kit.i64_of_i32 y
  rw [Jvm.Kit.i64_sub (by omega) (by omega), e1, e2]
theorem own_dd1 (x y : Int32) : (x.toInt64 - y.toInt64 + 1).toInt = x.toInt - y.toInt + 1 := by
  have h1 := rng32 x
  have h2 := rng32 y
  have e := own_dd x y
  have o : (1 : Int64).toInt = 1 := rfl
  rw [Jvm.Kit.i64_add (by omega) (by omega), e, o]
theorem own_size (lo hi : Int32) : lo + (hi.toInt64 - lo.toInt64 + 1).toInt32 - 1 = hi := by
  apply Int32.toInt_inj.mp
  have h1 := rng32 lo
  have h2 := rng32 hi
  have e := own_dd1 hi lo
  have f1 := Int64.toInt_toInt32 (hi.toInt64 - lo.toInt64 + 1)
  have f2 := bm32 (hi.toInt64 - lo.toInt64 + 1).toInt
  rw [← f1] at f2
  generalize (hi.toInt64 - lo.toInt64 + 1).toInt32 = sz at *
  have c1 := c_iadd lo sz
  have c2 := c_isub (lo + sz) 1
  have o : (1 : Int32).toInt = 1 := rfl
  have h3 := rng32 (lo + sz - 1)
  omega
def own_pos (lo hi v : Int32) : Int64 := if v < lo then -1 else if hi < v then -1 else v.toInt64 - lo.toInt64
theorem own_back (lo v : Int32) : (lo.toInt64 + (v.toInt64 - lo.toInt64)).toInt32 = v := by
  apply Int32.toInt_inj.mp
  have h1 := rng32 lo
  have h2 := rng32 v
  have e1 := Jvm.Kit.i64_of_i32 lo
  have e := own_dd v lo
  have q : (lo.toInt64 + (v.toInt64 - lo.toInt64)).toInt = v.toInt := by
    rw [Jvm.Kit.i64_add (by omega) (by omega), e, e1]
    omega
  rw [Jvm.Kit.i32_of_i64 (by omega) (by omega), q]
theorem own_lt64 {x y : Int64} : x < y ↔ x.toInt < y.toInt := Int64.lt_iff_toInt_lt
theorem own_z64 : (0 : Int64).toInt = 0 := rfl
theorem d1_0 : decode jdk_29_method_65_code 0 = .ok (.iload_n 0, 1) := by decide +kernel
theorem d1_1 : decode jdk_29_method_65_code 1 = .ok (.iload_n 1, 1) := by decide +kernel
theorem d1_2 : decode jdk_29_method_65_code 2 = .ok (.if_icmp .lt 7, 3) := by decide +kernel
theorem d1_5 : decode jdk_29_method_65_code 5 = .ok (.iload_n 0, 1) := by decide +kernel
theorem d1_6 : decode jdk_29_method_65_code 6 = .ok (.goto 4, 3) := by decide +kernel
theorem d1_9 : decode jdk_29_method_65_code 9 = .ok (.iload_n 1, 1) := by decide +kernel
theorem d1_10 : decode jdk_29_method_65_code 10 = .ok (.ireturn, 1) := by decide +kernel
def Q1 (Z : State) (x : Int32) (y : Int32) (h0 : Heap) (n0 : Nat) (v : Option Value) (h : Heap) (L : List Loc) : Prop := v = some (.int (own_max x y)) ∧ Fr n0 L ∧ h = h0
theorem ef_1 (m : MethodId) (x : Int32) (y : Int32) : entryFrame m #[(.int x), (.int y)] 2 = mkF m 0 #[.val (.int x), .val (.int y)] [] := by first | (simp [entryFrame, mkF, argsToLocals, Value.category]; done) | rfl
set_option maxRecDepth 65536 in
set_option maxHeartbeats 40000000 in
theorem rm1 (l : Launch) (Z : State) (a0 : Array Value) (hw : ∀ d ∈ tables_1, d.before a0 Z = true) (ws : List Jvm.Cond) (x : Int32) (y : Int32) (h0 : Heap) (n0 : Nat) (Z0 : n0 ≤ h0.size)  :
    MetFree l (⟨"java/lang/Math", "max", "(II)I"⟩ : MethodName) (head1 (Jvm.Cond.code (⟨"java/lang/Math", "max", "(II)I"⟩ : MethodName) jdk_29_method_65_code 2 (some .int) :: ws) ({ frames := 0, cells := 0, slots := 0, locals := 0 } : Room)) (fun a U => a = #[(.int x), (.int y)] ∧ Z.Warmed39 U.vm ∧ U.heap = h0) (fun _ _ _ _ _ => True) (fun _ U o U' => ∃ v L, o = .returned v ∧ Q1 Z x y h0 n0 v U'.heap L ∧ FrameEnd U o U' L ({ frames := 0, cells := 0, slots := 0, locals := 0 } : Room).cells ({ frames := 0, cells := 0, slots := 0, locals := 0 } : Room).slots) := by
  refine MetFree.of_bodySF (Jvm.Free.JP.mathPlain rfl (by decide +kernel)) hisR ?_
  intro p e s m args below meth c s₁ Bd hml0 hP hK
  obtain ⟨rfl, hZ, hh⟩ := hP
  have hnm := (name_of_methodNamed Bd.named Bd.method).1
  have C : own_C p s m c jdk_29_method_65_code "java/lang/Math" Z 2 := ⟨Bd.exec, Bd.bytes, hZ, findClass_of_methodNamed Bd.named, hml0⟩
  have X0 : Stand p l e ({ frames := 0, cells := 0, slots := 0, locals := 0 } : Room) s m #[(.int x), (.int y)] below meth c s₁ [] 0 0 := Stand.of_body Bd
  have e0 : s₁.heap = h0 := by rw [← hh, Bd.state]; rfl
  have N0 := Fr.nil n0
  show own_E p e below (own_R s below (Q1 Z x y h0 n0) ({ frames := 0, cells := 0, slots := 0, locals := 0 } : Room).cells ({ frames := 0, cells := 0, slots := 0, locals := 0 } : Room).slots) s₁ (entryFrame m #[(.int x), (.int y)] 2)
  rw [ef_1]
  refine own_iloadN C X0 d1_0 rfl rfl ?_
  refine own_iloadN C X0 d1_1 rfl rfl ?_
  by_cases b : x < y
  · refine own_icmpY (pc' := 9) C X0 d1_2 (tlt b).1 (by decide) (by decide) ?_
    refine own_iloadN C X0 d1_9 rfl rfl ?_
    exact own_retI C X0 Bd.returns Bd.notSynchronized (by decide) (by decide) d1_10 ⟨by rw [own_max, if_pos b], N0, e0⟩
  · refine own_icmpN C X0 d1_2 (flt b).1 rfl ?_
    refine own_iloadN C X0 d1_5 rfl rfl ?_
    refine own_goto (pc' := 10) C X0 d1_6 (by decide) (by decide) ?_
    exact own_retI C X0 Bd.returns Bd.notSynchronized (by decide) (by decide) d1_10 ⟨by rw [own_max, if_neg b], N0, e0⟩
theorem d5_0 : decode prog_107_method_1_code 0 = .ok (.aload_n 0, 1) := by decide +kernel
theorem d5_1 : decode prog_107_method_1_code 1 = .ok (.invokespecial 1, 3) := by decide +kernel
theorem d5_4 : decode prog_107_method_1_code 4 = .ok (.aload_n 0, 1) := by decide +kernel
theorem d5_5 : decode prog_107_method_1_code 5 = .ok (.aload_n 1, 1) := by decide +kernel
theorem d5_6 : decode prog_107_method_1_code 6 = .ok (.putfield 7, 3) := by decide +kernel
theorem d5_9 : decode prog_107_method_1_code 9 = .ok (.return_, 1) := by decide +kernel
theorem pn_5 : plainName "com/example/anchovy/anchovy/model/Type" = true := by first | (simp [plainName, overriddenIn]; done) | decide +kernel
def Q5 (Z : State) (a1 : Addr) (st : Addr) (h0 : Heap) (n0 : Nat) (v : Option Value) (h : Heap) (L : List Loc) : Prop := v = none ∧ Fr n0 L ∧ Keep h0 h [a1] ∧ Exa Z h a1 "com/example/anchovy/anchovy/model/ScalarsetType" ∧ Fld Z h a1 "com/example/anchovy/anchovy/model/IntervalType" "lowest" "I" (.int 0) ∧ Fld Z h a1 "com/example/anchovy/anchovy/model/IntervalType" "highest" "I" (.int 0)
theorem ef_5 (m : MethodId) (a1 : Addr) (st : Addr) : entryFrame m #[(.ref a1), (.ref st)] 2 = mkF m 0 #[.val (.ref a1), .val (.ref st)] [] := by first | (simp [entryFrame, mkF, argsToLocals, Value.category]; done) | rfl
set_option maxRecDepth 65536 in
set_option maxHeartbeats 40000000 in
theorem rm5 (l : Launch) (Z : State) (a0 : Array Value) (hw : ∀ d ∈ tables_1, d.before a0 Z = true) (ws : List Jvm.Cond) (a1 : Addr) (st : Addr) (h0 : Heap) (n0 : Nat) (Z0 : n0 ≤ h0.size) (E1 : Exa Z h0 a1 "com/example/anchovy/anchovy/model/ScalarsetType") (F_name : Fld Z h0 a1 "com/example/anchovy/anchovy/model/Type" "name" "Ljava/lang/String;" (.null)) (F_lowest : Fld Z h0 a1 "com/example/anchovy/anchovy/model/IntervalType" "lowest" "I" (.int 0)) (F_highest : Fld Z h0 a1 "com/example/anchovy/anchovy/model/IntervalType" "highest" "I" (.int 0)) (g1 : n0 ≤ a1) :
    MetFree l (⟨"com/example/anchovy/anchovy/model/Type", "<init>", "(Ljava/lang/String;)V"⟩ : MethodName) (head1 (Jvm.Cond.code (⟨"com/example/anchovy/anchovy/model/Type", "<init>", "(Ljava/lang/String;)V"⟩ : MethodName) prog_107_method_1_code 2 none :: ws) ({ frames := 1, cells := 0, slots := 0, locals := 12 } : Room)) (fun a U => a = #[(.ref a1), (.ref st)] ∧ Z.Warmed39 U.vm ∧ U.heap = h0) (fun _ _ _ _ _ => True) (fun _ U o U' => ∃ v L, o = .returned v ∧ Q5 Z a1 st h0 n0 v U'.heap L ∧ FrameEnd U o U' L ({ frames := 1, cells := 0, slots := 0, locals := 12 } : Room).cells ({ frames := 1, cells := 0, slots := 0, locals := 12 } : Room).slots) := by
  refine MetFree.of_bodySF (plainFor_of_name pn_5) hisR ?_
  intro p e s m args below meth c s₁ Bd hml0 hP hK
  obtain ⟨rfl, hZ, hh⟩ := hP
  have hnm := (name_of_methodNamed Bd.named Bd.method).1
  have C : own_C p s m c prog_107_method_1_code "com/example/anchovy/anchovy/model/Type" Z 2 := ⟨Bd.exec, Bd.bytes, hZ, findClass_of_methodNamed Bd.named, hml0⟩
  have X0 : Stand p l e ({ frames := 1, cells := 0, slots := 0, locals := 12 } : Room) s m #[(.ref a1), (.ref st)] below meth c s₁ [] 0 0 := Stand.of_body Bd
  have e0 : s₁.heap = h0 := by rw [← hh, Bd.state]; rfl
  have N0 := Fr.nil n0
  show own_E p e below (own_R s below (Q5 Z a1 st h0 n0) ({ frames := 1, cells := 0, slots := 0, locals := 12 } : Room).cells ({ frames := 1, cells := 0, slots := 0, locals := 12 } : Room).slots) s₁ (entryFrame m #[(.ref a1), (.ref st)] 2)
  rw [ef_5]
  refine own_aloadN C X0 d5_0 rfl rfl rfl ?_
  refine own_initO C X0 0 (hw _ (List.mem_of_getElem? (i := 34) rfl)) (hw _ (List.mem_of_getElem? (i := 35) rfl)) (hw _ (List.mem_of_getElem? (i := 36) rfl)) e0 rfl (by decide) (Nat.le_of_eq rfl) (by decide) d5_1 rfl fun T1_ X1_ e1_ => ?_
  refine own_aloadN C X1_ d5_4 rfl rfl rfl ?_
  refine own_aloadN C X1_ d5_5 rfl rfl rfl ?_
  refine own_putF C X1_ (hw _ (List.mem_of_getElem? (i := 37) rfl)) Via.refl e1_ F_name E1 (Or.inr ⟨(hw _ (List.mem_of_getElem? (i := 38) rfl)), rfl, hnm⟩) (hw _ (List.mem_of_getElem? (i := 6) rfl)) (ty := .object "java/lang/String") (by decide) rfl rfl d5_6 rfl fun T2_ h2_ X2_ e2_ W2_ F2_ E2_ => ?_
  have F_lowest_2 := F_lowest.other W2_ (Or.inr (slot_ne (t := .int) (t' := .object "java/lang/String") (Or.inr (hw _ (List.mem_of_getElem? (i := 41) rfl))) (Or.inr (hw _ (List.mem_of_getElem? (i := 38) rfl))) (by decide) (by decide) (by decide)))
  have F_highest_2 := F_highest.other W2_ (Or.inr (slot_ne (t := .int) (t' := .object "java/lang/String") (Or.inr (hw _ (List.mem_of_getElem? (i := 43) rfl))) (Or.inr (hw _ (List.mem_of_getElem? (i := 38) rfl))) (by decide) (by decide) (by decide)))
  have K_2 := (Keep.refl h0 [a1]).wr W2_ (Or.inl (List.mem_of_getElem? (i := 0) rfl))
  have N_2 := Fr.snoc X2_ N0 g1
  subst e2_
  exact own_retV C X2_ Bd.returns Bd.notSynchronized (by decide) (by decide) d5_9 ⟨rfl, N_2, K_2, E2_, F_lowest_2, F_highest_2⟩
theorem pd_S : parseMethodDescriptor "(Ljava/lang/String;)V" = some ⟨[.object "java/lang/String"], none⟩ := by decide +kernel
theorem pd_I : parseMethodDescriptor "(Ljava/lang/String;II)V" = some ⟨[.object "java/lang/String", .int, .int], none⟩ := by decide +kernel
theorem d4_0 : decode prog_99_method_1_code 0 = .ok (.aload_n 0, 1) := by decide +kernel
theorem d4_1 : decode prog_99_method_1_code 1 = .ok (.aload_n 1, 1) := by decide +kernel
theorem d4_2 : decode prog_99_method_1_code 2 = .ok (.invokespecial 1, 3) := by decide +kernel
theorem d4_5 : decode prog_99_method_1_code 5 = .ok (.return_, 1) := by decide +kernel
theorem pn_4 : plainName "com/example/anchovy/anchovy/model/ScalarType" = true := by first | (simp [plainName, overriddenIn]; done) | decide +kernel
def Q4 (Z : State) (a1 : Addr) (st : Addr) (h0 : Heap) (n0 : Nat) (v : Option Value) (h : Heap) (L : List Loc) : Prop := v = none ∧ Fr n0 L ∧ Keep h0 h [a1] ∧ Exa Z h a1 "com/example/anchovy/anchovy/model/ScalarsetType" ∧ Fld Z h a1 "com/example/anchovy/anchovy/model/IntervalType" "lowest" "I" (.int 0) ∧ Fld Z h a1 "com/example/anchovy/anchovy/model/IntervalType" "highest" "I" (.int 0)
theorem ef_4 (m : MethodId) (a1 : Addr) (st : Addr) : entryFrame m #[(.ref a1), (.ref st)] 2 = mkF m 0 #[.val (.ref a1), .val (.ref st)] [] := by first | (simp [entryFrame, mkF, argsToLocals, Value.category]; done) | rfl
set_option maxRecDepth 65536 in
set_option maxHeartbeats 40000000 in
theorem rm4 (l : Launch) (Z : State) (a0 : Array Value) (hw : ∀ d ∈ tables_1, d.before a0 Z = true) (ws : List Jvm.Cond) (a1 : Addr) (st : Addr) (h0 : Heap) (n0 : Nat) (Z0 : n0 ≤ h0.size) (E1 : Exa Z h0 a1 "com/example/anchovy/anchovy/model/ScalarsetType") (F_name : Fld Z h0 a1 "com/example/anchovy/anchovy/model/Type" "name" "Ljava/lang/String;" (.null)) (F_lowest : Fld Z h0 a1 "com/example/anchovy/anchovy/model/IntervalType" "lowest" "I" (.int 0)) (F_highest : Fld Z h0 a1 "com/example/anchovy/anchovy/model/IntervalType" "highest" "I" (.int 0)) (g1 : n0 ≤ a1) :
    MetFree l (⟨"com/example/anchovy/anchovy/model/ScalarType", "<init>", "(Ljava/lang/String;)V"⟩ : MethodName) (head1 (Jvm.Cond.code (⟨"com/example/anchovy/anchovy/model/ScalarType", "<init>", "(Ljava/lang/String;)V"⟩ : MethodName) prog_99_method_1_code 2 none :: ws) ({ frames := 2, cells := 0, slots := 0, locals := 25 } : Room)) (fun a U => a = #[(.ref a1), (.ref st)] ∧ Z.Warmed39 U.vm ∧ U.heap = h0) (fun _ _ _ _ _ => True) (fun _ U o U' => ∃ v L, o = .returned v ∧ Q4 Z a1 st h0 n0 v U'.heap L ∧ FrameEnd U o U' L ({ frames := 2, cells := 0, slots := 0, locals := 25 } : Room).cells ({ frames := 2, cells := 0, slots := 0, locals := 25 } : Room).slots) := by
  refine MetFree.of_bodySF (plainFor_of_name pn_4) hisR ?_
  intro p e s m args below meth c s₁ Bd hml0 hP hK
  obtain ⟨rfl, hZ, hh⟩ := hP
  have hnm := (name_of_methodNamed Bd.named Bd.method).1
  have C : own_C p s m c prog_99_method_1_code "com/example/anchovy/anchovy/model/ScalarType" Z 2 := ⟨Bd.exec, Bd.bytes, hZ, findClass_of_methodNamed Bd.named, hml0⟩
  have X0 : Stand p l e ({ frames := 2, cells := 0, slots := 0, locals := 25 } : Room) s m #[(.ref a1), (.ref st)] below meth c s₁ [] 0 0 := Stand.of_body Bd
  have e0 : s₁.heap = h0 := by rw [← hh, Bd.state]; rfl
  have N0 := Fr.nil n0
  show own_E p e below (own_R s below (Q4 Z a1 st h0 n0) ({ frames := 2, cells := 0, slots := 0, locals := 25 } : Room).cells ({ frames := 2, cells := 0, slots := 0, locals := 25 } : Room).slots) s₁ (entryFrame m #[(.ref a1), (.ref st)] 2)
  rw [ef_4]
  refine own_aloadN C X0 d4_0 rfl rfl rfl ?_
  refine own_aloadN C X0 d4_1 rfl rfl rfl ?_
  refine own_callI C X0 0 [.ref st] (hw _ (List.mem_of_getElem? (i := 29) rfl)) rfl (hw _ (List.mem_of_getElem? (i := 30) rfl)) (hw _ (List.mem_of_getElem? (i := 32) rfl)) (hw _ (List.mem_of_getElem? (i := 33) rfl)) (by decide) e0 (rm5 l Z a0 hw [] a1 st h0 n0 Z0 E1 F_name F_lowest F_highest g1) rfl (by decide) (by decide) rfl (lenOf pd_S rfl) rfl (Nat.le_of_eq rfl) (by decide) (by decide) d4_2 rfl (fun _ _ _ q => q.1) fun T1_ L1_ X1_ Q1_ => ?_
  obtain ⟨-, N1, K1, A1, B1, B2⟩ := Q1_
  exact own_retV C X1_ Bd.returns Bd.notSynchronized (by decide) (by decide) d4_5 ⟨rfl, Fr.app N0 N1, K1, A1, B1, B2⟩
theorem d3_0 : decode prog_69_method_1_code 0 = .ok (.aload_n 0, 1) := by decide +kernel
theorem d3_1 : decode prog_69_method_1_code 1 = .ok (.aload_n 1, 1) := by decide +kernel
theorem d3_2 : decode prog_69_method_1_code 2 = .ok (.invokespecial 1, 3) := by decide +kernel
theorem d3_5 : decode prog_69_method_1_code 5 = .ok (.iload_n 2, 1) := by decide +kernel
theorem d3_6 : decode prog_69_method_1_code 6 = .ok (.ldc 9, 2) := by decide +kernel
theorem d3_8 : decode prog_69_method_1_code 8 = .ok (.if_icmp .eq 8, 3) := by decide +kernel
theorem d3_11 : decode prog_69_method_1_code 11 = .ok (.iload_n 3, 1) := by decide +kernel
theorem d3_12 : decode prog_69_method_1_code 12 = .ok (.iload_n 2, 1) := by decide +kernel
theorem d3_13 : decode prog_69_method_1_code 13 = .ok (.if_icmp .ge 18, 3) := by decide +kernel
theorem d3_31 : decode prog_69_method_1_code 31 = .ok (.aload_n 0, 1) := by decide +kernel
theorem d3_32 : decode prog_69_method_1_code 32 = .ok (.iload_n 2, 1) := by decide +kernel
theorem d3_33 : decode prog_69_method_1_code 33 = .ok (.putfield 17, 3) := by decide +kernel
theorem d3_36 : decode prog_69_method_1_code 36 = .ok (.aload_n 0, 1) := by decide +kernel
theorem d3_37 : decode prog_69_method_1_code 37 = .ok (.iload_n 3, 1) := by decide +kernel
theorem d3_38 : decode prog_69_method_1_code 38 = .ok (.putfield 23, 3) := by decide +kernel
theorem d3_41 : decode prog_69_method_1_code 41 = .ok (.return_, 1) := by decide +kernel
theorem pn_3 : plainName "com/example/anchovy/anchovy/model/IntervalType" = true := by first | (simp [plainName, overriddenIn]; done) | decide +kernel
def Q3 (Z : State) (a1 : Addr) (st : Addr) (lo : Int32) (hi : Int32) (h0 : Heap) (n0 : Nat) (v : Option Value) (h : Heap) (L : List Loc) : Prop := v = none ∧ Fr n0 L ∧ Keep h0 h [a1] ∧ Exa Z h a1 "com/example/anchovy/anchovy/model/ScalarsetType" ∧ Fld Z h a1 "com/example/anchovy/anchovy/model/IntervalType" "lowest" "I" (.int lo) ∧ Fld Z h a1 "com/example/anchovy/anchovy/model/IntervalType" "highest" "I" (.int hi)
theorem ef_3 (m : MethodId) (a1 : Addr) (st : Addr) (lo : Int32) (hi : Int32) : entryFrame m #[(.ref a1), (.ref st), (.int lo), (.int hi)] 4 = mkF m 0 #[.val (.ref a1), .val (.ref st), .val (.int lo), .val (.int hi)] [] := by first | (simp [entryFrame, mkF, argsToLocals, Value.category]; done) | rfl
set_option maxRecDepth 65536 in
set_option maxHeartbeats 40000000 in
theorem rm3 (l : Launch) (Z : State) (a0 : Array Value) (hw : ∀ d ∈ tables_1, d.before a0 Z = true) (ws : List Jvm.Cond) (a1 : Addr) (st : Addr) (lo : Int32) (hi : Int32) (h0 : Heap) (n0 : Nat) (Z0 : n0 ≤ h0.size) (E1 : Exa Z h0 a1 "com/example/anchovy/anchovy/model/ScalarsetType") (F_name : Fld Z h0 a1 "com/example/anchovy/anchovy/model/Type" "name" "Ljava/lang/String;" (.null)) (F_lowest : Fld Z h0 a1 "com/example/anchovy/anchovy/model/IntervalType" "lowest" "I" (.int 0)) (F_highest : Fld Z h0 a1 "com/example/anchovy/anchovy/model/IntervalType" "highest" "I" (.int 0)) (g1 : n0 ≤ a1) (hlo : ¬ lo = -2147483648) (hle : ¬ hi < lo) :
    MetFree l (⟨"com/example/anchovy/anchovy/model/IntervalType", "<init>", "(Ljava/lang/String;II)V"⟩ : MethodName) (head1 (Jvm.Cond.code (⟨"com/example/anchovy/anchovy/model/IntervalType", "<init>", "(Ljava/lang/String;II)V"⟩ : MethodName) prog_69_method_1_code 4 none :: ws) ({ frames := 3, cells := 0, slots := 0, locals := 38 } : Room)) (fun a U => a = #[(.ref a1), (.ref st), (.int lo), (.int hi)] ∧ Z.Warmed39 U.vm ∧ U.heap = h0) (fun _ _ _ _ _ => True) (fun _ U o U' => ∃ v L, o = .returned v ∧ Q3 Z a1 st lo hi h0 n0 v U'.heap L ∧ FrameEnd U o U' L ({ frames := 3, cells := 0, slots := 0, locals := 38 } : Room).cells ({ frames := 3, cells := 0, slots := 0, locals := 38 } : Room).slots) := by
  refine MetFree.of_bodySF (plainFor_of_name pn_3) hisR ?_
  intro p e s m args below meth c s₁ Bd hml0 hP hK
  obtain ⟨rfl, hZ, hh⟩ := hP
  have hnm := (name_of_methodNamed Bd.named Bd.method).1
  have C : own_C p s m c prog_69_method_1_code "com/example/anchovy/anchovy/model/IntervalType" Z 4 := ⟨Bd.exec, Bd.bytes, hZ, findClass_of_methodNamed Bd.named, hml0⟩
  have X0 : Stand p l e ({ frames := 3, cells := 0, slots := 0, locals := 38 } : Room) s m #[(.ref a1), (.ref st), (.int lo), (.int hi)] below meth c s₁ [] 0 0 := Stand.of_body Bd
  have e0 : s₁.heap = h0 := by rw [← hh, Bd.state]; rfl
  have N0 := Fr.nil n0
  show own_E p e below (own_R s below (Q3 Z a1 st lo hi h0 n0) ({ frames := 3, cells := 0, slots := 0, locals := 38 } : Room).cells ({ frames := 3, cells := 0, slots := 0, locals := 38 } : Room).slots) s₁ (entryFrame m #[(.ref a1), (.ref st), (.int lo), (.int hi)] 4)
  rw [ef_3]
  refine own_aloadN C X0 d3_0 rfl rfl rfl ?_
  refine own_aloadN C X0 d3_1 rfl rfl rfl ?_
  refine own_callI C X0 0 [.ref st] (hw _ (List.mem_of_getElem? (i := 24) rfl)) rfl (hw _ (List.mem_of_getElem? (i := 25) rfl)) (hw _ (List.mem_of_getElem? (i := 27) rfl)) (hw _ (List.mem_of_getElem? (i := 28) rfl)) (by decide) e0 (rm4 l Z a0 hw [] a1 st h0 n0 Z0 E1 F_name F_lowest F_highest g1) rfl (by decide) (by decide) rfl (lenOf pd_S rfl) rfl (Nat.le_of_eq rfl) (by decide) (by decide) d3_2 rfl (fun _ _ _ q => q.1) fun T1_ L1_ X1_ Q1_ => ?_
  obtain ⟨-, N1, K1, A1, B1, B2⟩ := Q1_
  have N2 := Fr.app N0 N1
  refine own_iloadN C X1_ d3_5 rfl rfl ?_
  refine own_ldcI C X1_ (hw _ (List.mem_of_getElem? (i := 39) rfl)) d3_6 rfl ?_
  refine own_icmpN C X1_ d3_8 (feq hlo).1 rfl ?_
  refine own_iloadN C X1_ d3_11 rfl rfl ?_
  refine own_iloadN C X1_ d3_12 rfl rfl ?_
  refine own_icmpY (pc' := 31) C X1_ d3_13 (flt hle).2.1 (by decide) (by decide) ?_
  refine own_aloadN C X1_ d3_31 rfl rfl rfl ?_
  refine own_iloadN C X1_ d3_32 rfl rfl ?_
  refine own_putF C X1_ (hw _ (List.mem_of_getElem? (i := 40) rfl)) Via.refl rfl B1 A1 (Or.inr ⟨(hw _ (List.mem_of_getElem? (i := 41) rfl)), rfl, hnm⟩) (hw _ (List.mem_of_getElem? (i := 6) rfl)) (ty := .int) (by decide) rfl rfl d3_33 rfl fun T2_ h2_ X2_ e2_ W2_ F2_ E2_ => ?_
  have F_highest_2 := B2.other W2_ (Or.inr (slot_ne (t := .int) (t' := .int) (Or.inr (hw _ (List.mem_of_getElem? (i := 43) rfl))) (Or.inr (hw _ (List.mem_of_getElem? (i := 41) rfl))) (by decide) (by decide) (by decide)))
  have K_2 := (K1).wr W2_ (Or.inl (List.mem_of_getElem? (i := 0) rfl))
  have N_2 := Fr.snoc X2_ N2 g1
  refine own_aloadN C X2_ d3_36 rfl rfl rfl ?_
  refine own_iloadN C X2_ d3_37 rfl rfl ?_
  refine own_putF C X2_ (hw _ (List.mem_of_getElem? (i := 42) rfl)) Via.refl e2_ F_highest_2 E2_ (Or.inr ⟨(hw _ (List.mem_of_getElem? (i := 43) rfl)), rfl, hnm⟩) (hw _ (List.mem_of_getElem? (i := 6) rfl)) (ty := .int) (by decide) rfl rfl d3_38 rfl fun T3_ h3_ X3_ e3_ W3_ F3_ E3_ => ?_
  have F_lowest_3 := F2_.other W3_ (Or.inr (slot_ne (t := .int) (t' := .int) (Or.inr (hw _ (List.mem_of_getElem? (i := 41) rfl))) (Or.inr (hw _ (List.mem_of_getElem? (i := 43) rfl))) (by decide) (by decide) (by decide)))
  have K_3 := (K_2).wr W3_ (Or.inl (List.mem_of_getElem? (i := 0) rfl))
  have N_3 := Fr.snoc X3_ N_2 g1
  subst e3_
  exact own_retV C X3_ Bd.returns Bd.notSynchronized (by decide) (by decide) d3_41 ⟨rfl, N_3, K_3, E3_, F_lowest_3, F3_⟩
theorem d2_0 : decode prog_100_method_1_code 0 = .ok (.aload_n 0, 1) := by decide +kernel
theorem d2_1 : decode prog_100_method_1_code 1 = .ok (.aload_n 1, 1) := by decide +kernel
theorem d2_2 : decode prog_100_method_1_code 2 = .ok (.iload_n 2, 1) := by decide +kernel
theorem d2_3 : decode prog_100_method_1_code 3 = .ok (.iload_n 2, 1) := by decide +kernel
theorem d2_4 : decode prog_100_method_1_code 4 = .ok (.iload_n 3, 1) := by decide +kernel
theorem d2_5 : decode prog_100_method_1_code 5 = .ok (.iadd, 1) := by decide +kernel
theorem d2_6 : decode prog_100_method_1_code 6 = .ok (.iconst 1, 1) := by decide +kernel
theorem d2_7 : decode prog_100_method_1_code 7 = .ok (.isub, 1) := by decide +kernel
theorem d2_8 : decode prog_100_method_1_code 8 = .ok (.invokespecial 1, 3) := by decide +kernel
theorem d2_11 : decode prog_100_method_1_code 11 = .ok (.return_, 1) := by decide +kernel
theorem pn_2 : plainName "com/example/anchovy/anchovy/model/ScalarsetType" = true := by first | (simp [plainName, overriddenIn]; done) | decide +kernel
def Q2 (Z : State) (a1 : Addr) (st : Addr) (lo : Int32) (hi : Int32) (sz : Int32) (h0 : Heap) (n0 : Nat) (v : Option Value) (h : Heap) (L : List Loc) : Prop := v = none ∧ Fr n0 L ∧ Keep h0 h [a1] ∧ Exa Z h a1 "com/example/anchovy/anchovy/model/ScalarsetType" ∧ Fld Z h a1 "com/example/anchovy/anchovy/model/IntervalType" "lowest" "I" (.int lo) ∧ Fld Z h a1 "com/example/anchovy/anchovy/model/IntervalType" "highest" "I" (.int hi)
theorem ef_2 (m : MethodId) (a1 : Addr) (st : Addr) (lo : Int32) (sz : Int32) : entryFrame m #[(.ref a1), (.ref st), (.int lo), (.int sz)] 4 = mkF m 0 #[.val (.ref a1), .val (.ref st), .val (.int lo), .val (.int sz)] [] := by first | (simp [entryFrame, mkF, argsToLocals, Value.category]; done) | rfl
set_option maxRecDepth 65536 in
set_option maxHeartbeats 40000000 in
theorem rm2 (l : Launch) (Z : State) (a0 : Array Value) (hw : ∀ d ∈ tables_1, d.before a0 Z = true) (ws : List Jvm.Cond) (a1 : Addr) (st : Addr) (lo : Int32) (hi : Int32) (sz : Int32) (h0 : Heap) (n0 : Nat) (Z0 : n0 ≤ h0.size) (E1 : Exa Z h0 a1 "com/example/anchovy/anchovy/model/ScalarsetType") (F_name : Fld Z h0 a1 "com/example/anchovy/anchovy/model/Type" "name" "Ljava/lang/String;" (.null)) (F_lowest : Fld Z h0 a1 "com/example/anchovy/anchovy/model/IntervalType" "lowest" "I" (.int 0)) (F_highest : Fld Z h0 a1 "com/example/anchovy/anchovy/model/IntervalType" "highest" "I" (.int 0)) (g1 : n0 ≤ a1) (hlo : ¬ lo = -2147483648) (hle : ¬ hi < lo) (hq : lo + sz - 1 = hi) :
    MetFree l (⟨"com/example/anchovy/anchovy/model/ScalarsetType", "<init>", "(Ljava/lang/String;II)V"⟩ : MethodName) (head1 (Jvm.Cond.code (⟨"com/example/anchovy/anchovy/model/ScalarsetType", "<init>", "(Ljava/lang/String;II)V"⟩ : MethodName) prog_100_method_1_code 4 none :: ws) ({ frames := 4, cells := 0, slots := 0, locals := 53 } : Room)) (fun a U => a = #[(.ref a1), (.ref st), (.int lo), (.int sz)] ∧ Z.Warmed39 U.vm ∧ U.heap = h0) (fun _ _ _ _ _ => True) (fun _ U o U' => ∃ v L, o = .returned v ∧ Q2 Z a1 st lo hi sz h0 n0 v U'.heap L ∧ FrameEnd U o U' L ({ frames := 4, cells := 0, slots := 0, locals := 53 } : Room).cells ({ frames := 4, cells := 0, slots := 0, locals := 53 } : Room).slots) := by
  refine MetFree.of_bodySF (plainFor_of_name pn_2) hisR ?_
  intro p e s m args below meth c s₁ Bd hml0 hP hK
  obtain ⟨rfl, hZ, hh⟩ := hP
  have hnm := (name_of_methodNamed Bd.named Bd.method).1
  have C : own_C p s m c prog_100_method_1_code "com/example/anchovy/anchovy/model/ScalarsetType" Z 4 := ⟨Bd.exec, Bd.bytes, hZ, findClass_of_methodNamed Bd.named, hml0⟩
  have X0 : Stand p l e ({ frames := 4, cells := 0, slots := 0, locals := 53 } : Room) s m #[(.ref a1), (.ref st), (.int lo), (.int sz)] below meth c s₁ [] 0 0 := Stand.of_body Bd
  have e0 : s₁.heap = h0 := by rw [← hh, Bd.state]; rfl
  have N0 := Fr.nil n0
  show own_E p e below (own_R s below (Q2 Z a1 st lo hi sz h0 n0) ({ frames := 4, cells := 0, slots := 0, locals := 53 } : Room).cells ({ frames := 4, cells := 0, slots := 0, locals := 53 } : Room).slots) s₁ (entryFrame m #[(.ref a1), (.ref st), (.int lo), (.int sz)] 4)
  rw [ef_2]
  refine own_aloadN C X0 d2_0 rfl rfl rfl ?_
  refine own_aloadN C X0 d2_1 rfl rfl rfl ?_
  refine own_iloadN C X0 d2_2 rfl rfl ?_
  refine own_iloadN C X0 d2_3 rfl rfl ?_
  refine own_iloadN C X0 d2_4 rfl rfl ?_
  refine own_iadd C X0 d2_5 rfl ?_
  refine own_iconst C X0 (1) d2_6 rfl rfl ?_
  refine own_isub C X0 d2_7 rfl ?_
  rw [hq]
  refine own_callI C X0 0 [.ref st, .int lo, .int hi] (hw _ (List.mem_of_getElem? (i := 19) rfl)) rfl (hw _ (List.mem_of_getElem? (i := 20) rfl)) (hw _ (List.mem_of_getElem? (i := 22) rfl)) (hw _ (List.mem_of_getElem? (i := 23) rfl)) (by decide) e0 (rm3 l Z a0 hw [] a1 st lo hi h0 n0 Z0 E1 F_name F_lowest F_highest g1 hlo hle) rfl (by decide) (by decide) rfl (lenOf pd_I rfl) rfl (Nat.le_of_eq rfl) (by decide) (by decide) d2_8 rfl (fun _ _ _ q => q.1) fun T1_ L1_ X1_ Q1_ => ?_
  obtain ⟨-, N1, K1, A1, B1, B2⟩ := Q1_
  exact own_retV C X1_ Bd.returns Bd.notSynchronized (by decide) (by decide) d2_11 ⟨rfl, Fr.app N0 N1, K1, A1, B1, B2⟩
theorem d7_0 : decode prog_69_method_6_code 0 = .ok (.iload_n 1, 1) := by decide +kernel
theorem d7_1 : decode prog_69_method_6_code 1 = .ok (.aload_n 0, 1) := by decide +kernel
theorem d7_2 : decode prog_69_method_6_code 2 = .ok (.getfield 17, 3) := by decide +kernel
theorem d7_5 : decode prog_69_method_6_code 5 = .ok (.if_icmp .lt 22, 3) := by decide +kernel
theorem d7_8 : decode prog_69_method_6_code 8 = .ok (.iload_n 1, 1) := by decide +kernel
theorem d7_9 : decode prog_69_method_6_code 9 = .ok (.aload_n 0, 1) := by decide +kernel
theorem d7_10 : decode prog_69_method_6_code 10 = .ok (.getfield 23, 3) := by decide +kernel
theorem d7_13 : decode prog_69_method_6_code 13 = .ok (.if_icmp .gt 14, 3) := by decide +kernel
theorem d7_16 : decode prog_69_method_6_code 16 = .ok (.iload_n 1, 1) := by decide +kernel
theorem d7_17 : decode prog_69_method_6_code 17 = .ok (.i2l, 1) := by decide +kernel
theorem d7_18 : decode prog_69_method_6_code 18 = .ok (.aload_n 0, 1) := by decide +kernel
theorem d7_19 : decode prog_69_method_6_code 19 = .ok (.getfield 17, 3) := by decide +kernel
theorem d7_22 : decode prog_69_method_6_code 22 = .ok (.i2l, 1) := by decide +kernel
theorem d7_23 : decode prog_69_method_6_code 23 = .ok (.lsub, 1) := by decide +kernel
theorem d7_24 : decode prog_69_method_6_code 24 = .ok (.goto 6, 3) := by decide +kernel
theorem d7_27 : decode prog_69_method_6_code 27 = .ok (.ldc2_w 26, 3) := by decide +kernel
theorem d7_30 : decode prog_69_method_6_code 30 = .ok (.lreturn, 1) := by decide +kernel
theorem pn_7 : plainName "com/example/anchovy/anchovy/model/IntervalType" = true := by first | (simp [plainName, overriddenIn]; done) | decide +kernel
def Q7 (Z : State) (a1 : Addr) (lo : Int32) (hi : Int32) (u : Int32) (h0 : Heap) (n0 : Nat) (v : Option Value) (h : Heap) (L : List Loc) : Prop := v = some (.long (own_pos lo hi u)) ∧ Fr n0 L ∧ h = h0
theorem ef_7 (m : MethodId) (a1 : Addr) (u : Int32) : entryFrame m #[(.ref a1), (.int u)] 2 = mkF m 0 #[.val (.ref a1), .val (.int u)] [] := by first | (simp [entryFrame, mkF, argsToLocals, Value.category]; done) | rfl
set_option maxRecDepth 65536 in
set_option maxHeartbeats 40000000 in
theorem rm7 (l : Launch) (Z : State) (a0 : Array Value) (hw : ∀ d ∈ tables_1, d.before a0 Z = true) (ws : List Jvm.Cond) (a1 : Addr) (lo : Int32) (hi : Int32) (u : Int32) (h0 : Heap) (n0 : Nat) (Z0 : n0 ≤ h0.size) (F1 : Fld Z h0 a1 "com/example/anchovy/anchovy/model/IntervalType" "lowest" "I" (.int lo)) (F2 : Fld Z h0 a1 "com/example/anchovy/anchovy/model/IntervalType" "highest" "I" (.int hi)) :
    MetFree l (⟨"com/example/anchovy/anchovy/model/IntervalType", "positionOf", "(I)J"⟩ : MethodName) (head1 (Jvm.Cond.code (⟨"com/example/anchovy/anchovy/model/IntervalType", "positionOf", "(I)J"⟩ : MethodName) prog_69_method_6_code 2 (some .long) :: ws) ({ frames := 0, cells := 0, slots := 0, locals := 0 } : Room)) (fun a U => a = #[(.ref a1), (.int u)] ∧ Z.Warmed39 U.vm ∧ U.heap = h0) (fun _ _ _ _ _ => True) (fun _ U o U' => ∃ v L, o = .returned v ∧ Q7 Z a1 lo hi u h0 n0 v U'.heap L ∧ FrameEnd U o U' L ({ frames := 0, cells := 0, slots := 0, locals := 0 } : Room).cells ({ frames := 0, cells := 0, slots := 0, locals := 0 } : Room).slots) := by
  refine MetFree.of_bodySF (plainFor_of_name pn_7) hisR ?_
  intro p e s m args below meth c s₁ Bd hml0 hP hK
  obtain ⟨rfl, hZ, hh⟩ := hP
  have hnm := (name_of_methodNamed Bd.named Bd.method).1
  have C : own_C p s m c prog_69_method_6_code "com/example/anchovy/anchovy/model/IntervalType" Z 2 := ⟨Bd.exec, Bd.bytes, hZ, findClass_of_methodNamed Bd.named, hml0⟩
  have X0 : Stand p l e ({ frames := 0, cells := 0, slots := 0, locals := 0 } : Room) s m #[(.ref a1), (.int u)] below meth c s₁ [] 0 0 := Stand.of_body Bd
  have e0 : s₁.heap = h0 := by rw [← hh, Bd.state]; rfl
  have N0 := Fr.nil n0
  show own_E p e below (own_R s below (Q7 Z a1 lo hi u h0 n0) ({ frames := 0, cells := 0, slots := 0, locals := 0 } : Room).cells ({ frames := 0, cells := 0, slots := 0, locals := 0 } : Room).slots) s₁ (entryFrame m #[(.ref a1), (.int u)] 2)
  rw [ef_7]
  refine own_iloadN C X0 d7_0 rfl rfl ?_
  refine own_aloadN C X0 d7_1 rfl rfl rfl ?_
  refine own_getF C X0 (hw _ (List.mem_of_getElem? (i := 40) rfl)) Via.refl e0 F1 d7_2 rfl fun T1_ X1_ e1_ => ?_
  by_cases b : u < lo
  · refine own_icmpY (pc' := 27) C X1_ d7_5 (tlt b).1 (by decide) (by decide) ?_
    refine own_ldcJ C X1_ (hw _ (List.mem_of_getElem? (i := 59) rfl)) d7_27 rfl ?_
    have ee := e1_
    exact own_retJ C X1_ Bd.returns Bd.notSynchronized (by decide) (by decide) d7_30 ⟨by rw [own_pos, if_pos b], N0, ee⟩
  refine own_icmpN C X1_ d7_5 (flt b).1 rfl ?_
  refine own_iloadN C X1_ d7_8 rfl rfl ?_
  refine own_aloadN C X1_ d7_9 rfl rfl rfl ?_
  refine own_getF C X1_ (hw _ (List.mem_of_getElem? (i := 42) rfl)) Via.refl e1_ F2 d7_10 rfl fun T2_ X2_ e2_ => ?_
  by_cases b' : hi < u
  · refine own_icmpY (pc' := 27) C X2_ d7_13 (tlt b').2.2.1 (by decide) (by decide) ?_
    refine own_ldcJ C X2_ (hw _ (List.mem_of_getElem? (i := 59) rfl)) d7_27 rfl ?_
    have ee := e2_
    exact own_retJ C X2_ Bd.returns Bd.notSynchronized (by decide) (by decide) d7_30 ⟨by rw [own_pos, if_neg b, if_pos b'], N0, ee⟩
  refine own_icmpN C X2_ d7_13 (flt b').2.2.1 rfl ?_
  refine own_iloadN C X2_ d7_16 rfl rfl ?_
  refine own_i2l C X2_ d7_17 rfl ?_
  refine own_aloadN C X2_ d7_18 rfl rfl rfl ?_
  refine own_getF C X2_ (hw _ (List.mem_of_getElem? (i := 40) rfl)) Via.refl e2_ F1 d7_19 rfl fun T3_ X3_ e3_ => ?_
  refine own_i2l C X3_ d7_22 rfl ?_
  refine own_lsub C X3_ d7_23 rfl ?_
  refine own_goto (pc' := 30) C X3_ d7_24 (by decide) (by decide) ?_
  have ee := e3_
  exact own_retJ C X3_ Bd.returns Bd.notSynchronized (by decide) (by decide) d7_30 ⟨by rw [own_pos, if_neg b, if_neg b'], N0, ee⟩
theorem d8_0 : decode prog_69_method_5_code 0 = .ok (.aload_n 0, 1) := by decide +kernel
theorem d8_1 : decode prog_69_method_5_code 1 = .ok (.getfield 17, 3) := by decide +kernel
theorem d8_4 : decode prog_69_method_5_code 4 = .ok (.i2l, 1) := by decide +kernel
theorem d8_5 : decode prog_69_method_5_code 5 = .ok (.lload_n 1, 1) := by decide +kernel
theorem d8_6 : decode prog_69_method_5_code 6 = .ok (.ladd, 1) := by decide +kernel
theorem d8_7 : decode prog_69_method_5_code 7 = .ok (.l2i, 1) := by decide +kernel
theorem d8_8 : decode prog_69_method_5_code 8 = .ok (.ireturn, 1) := by decide +kernel
theorem pn_8 : plainName "com/example/anchovy/anchovy/model/IntervalType" = true := by first | (simp [plainName, overriddenIn]; done) | decide +kernel
def Q8 (Z : State) (a1 : Addr) (lo : Int32) (hi : Int32) (u : Int64) (h0 : Heap) (n0 : Nat) (v : Option Value) (h : Heap) (L : List Loc) : Prop := v = some (.int (lo.toInt64 + u).toInt32) ∧ Fr n0 L ∧ h = h0
theorem ef_8 (m : MethodId) (a1 : Addr) (u : Int64) : entryFrame m #[(.ref a1), (.long u)] 3 = mkF m 0 #[.val (.ref a1), .val (.long u), .second] [] := by first | (simp [entryFrame, mkF, argsToLocals, Value.category]; done) | rfl
set_option maxRecDepth 65536 in
set_option maxHeartbeats 40000000 in
theorem rm8 (l : Launch) (Z : State) (a0 : Array Value) (hw : ∀ d ∈ tables_1, d.before a0 Z = true) (ws : List Jvm.Cond) (a1 : Addr) (lo : Int32) (hi : Int32) (u : Int64) (h0 : Heap) (n0 : Nat) (Z0 : n0 ≤ h0.size) (F1 : Fld Z h0 a1 "com/example/anchovy/anchovy/model/IntervalType" "lowest" "I" (.int lo)) (F2 : Fld Z h0 a1 "com/example/anchovy/anchovy/model/IntervalType" "highest" "I" (.int hi)) :
    MetFree l (⟨"com/example/anchovy/anchovy/model/IntervalType", "valueAt", "(J)I"⟩ : MethodName) (head1 (Jvm.Cond.code (⟨"com/example/anchovy/anchovy/model/IntervalType", "valueAt", "(J)I"⟩ : MethodName) prog_69_method_5_code 3 (some .int) :: ws) ({ frames := 0, cells := 0, slots := 0, locals := 0 } : Room)) (fun a U => a = #[(.ref a1), (.long u)] ∧ Z.Warmed39 U.vm ∧ U.heap = h0) (fun _ _ _ _ _ => True) (fun _ U o U' => ∃ v L, o = .returned v ∧ Q8 Z a1 lo hi u h0 n0 v U'.heap L ∧ FrameEnd U o U' L ({ frames := 0, cells := 0, slots := 0, locals := 0 } : Room).cells ({ frames := 0, cells := 0, slots := 0, locals := 0 } : Room).slots) := by
  refine MetFree.of_bodySF (plainFor_of_name pn_8) hisR ?_
  intro p e s m args below meth c s₁ Bd hml0 hP hK
  obtain ⟨rfl, hZ, hh⟩ := hP
  have hnm := (name_of_methodNamed Bd.named Bd.method).1
  have C : own_C p s m c prog_69_method_5_code "com/example/anchovy/anchovy/model/IntervalType" Z 3 := ⟨Bd.exec, Bd.bytes, hZ, findClass_of_methodNamed Bd.named, hml0⟩
  have X0 : Stand p l e ({ frames := 0, cells := 0, slots := 0, locals := 0 } : Room) s m #[(.ref a1), (.long u)] below meth c s₁ [] 0 0 := Stand.of_body Bd
  have e0 : s₁.heap = h0 := by rw [← hh, Bd.state]; rfl
  have N0 := Fr.nil n0
  show own_E p e below (own_R s below (Q8 Z a1 lo hi u h0 n0) ({ frames := 0, cells := 0, slots := 0, locals := 0 } : Room).cells ({ frames := 0, cells := 0, slots := 0, locals := 0 } : Room).slots) s₁ (entryFrame m #[(.ref a1), (.long u)] 3)
  rw [ef_8]
  refine own_aloadN C X0 d8_0 rfl rfl rfl ?_
  refine own_getF C X0 (hw _ (List.mem_of_getElem? (i := 40) rfl)) Via.refl e0 F1 d8_1 rfl fun T1_ X1_ e1_ => ?_
  refine own_i2l C X1_ d8_4 rfl ?_
  refine own_lloadN C X1_ d8_5 rfl rfl ?_
  refine own_ladd C X1_ d8_6 rfl ?_
  refine own_l2i C X1_ d8_7 rfl ?_
  have ee := e1_
  exact own_retI C X1_ Bd.returns Bd.notSynchronized (by decide) (by decide) d8_8 ⟨rfl, N0, ee⟩
theorem d9_0 : decode prog_69_method_4_code 0 = .ok (.aload_n 0, 1) := by decide +kernel
theorem d9_1 : decode prog_69_method_4_code 1 = .ok (.getfield 23, 3) := by decide +kernel
theorem d9_4 : decode prog_69_method_4_code 4 = .ok (.i2l, 1) := by decide +kernel
theorem d9_5 : decode prog_69_method_4_code 5 = .ok (.aload_n 0, 1) := by decide +kernel
theorem d9_6 : decode prog_69_method_4_code 6 = .ok (.getfield 17, 3) := by decide +kernel
theorem d9_9 : decode prog_69_method_4_code 9 = .ok (.i2l, 1) := by decide +kernel
theorem d9_10 : decode prog_69_method_4_code 10 = .ok (.lsub, 1) := by decide +kernel
theorem d9_11 : decode prog_69_method_4_code 11 = .ok (.lconst 1, 1) := by decide +kernel
theorem d9_12 : decode prog_69_method_4_code 12 = .ok (.ladd, 1) := by decide +kernel
theorem d9_13 : decode prog_69_method_4_code 13 = .ok (.lreturn, 1) := by decide +kernel
theorem pn_9 : plainName "com/example/anchovy/anchovy/model/IntervalType" = true := by first | (simp [plainName, overriddenIn]; done) | decide +kernel
def Q9 (Z : State) (a1 : Addr) (lo : Int32) (hi : Int32) (h0 : Heap) (n0 : Nat) (v : Option Value) (h : Heap) (L : List Loc) : Prop := v = some (.long (hi.toInt64 - lo.toInt64 + 1)) ∧ Fr n0 L ∧ h = h0
theorem ef_9 (m : MethodId) (a1 : Addr) : entryFrame m #[(.ref a1)] 1 = mkF m 0 #[.val (.ref a1)] [] := by first | (simp [entryFrame, mkF, argsToLocals, Value.category]; done) | rfl
set_option maxRecDepth 65536 in
set_option maxHeartbeats 40000000 in
theorem rm9 (l : Launch) (Z : State) (a0 : Array Value) (hw : ∀ d ∈ tables_1, d.before a0 Z = true) (ws : List Jvm.Cond) (a1 : Addr) (lo : Int32) (hi : Int32) (h0 : Heap) (n0 : Nat) (Z0 : n0 ≤ h0.size) (F1 : Fld Z h0 a1 "com/example/anchovy/anchovy/model/IntervalType" "lowest" "I" (.int lo)) (F2 : Fld Z h0 a1 "com/example/anchovy/anchovy/model/IntervalType" "highest" "I" (.int hi)) :
    MetFree l (⟨"com/example/anchovy/anchovy/model/IntervalType", "getSize", "()J"⟩ : MethodName) (head1 (Jvm.Cond.code (⟨"com/example/anchovy/anchovy/model/IntervalType", "getSize", "()J"⟩ : MethodName) prog_69_method_4_code 1 (some .long) :: ws) ({ frames := 0, cells := 0, slots := 0, locals := 0 } : Room)) (fun a U => a = #[(.ref a1)] ∧ Z.Warmed39 U.vm ∧ U.heap = h0) (fun _ _ _ _ _ => True) (fun _ U o U' => ∃ v L, o = .returned v ∧ Q9 Z a1 lo hi h0 n0 v U'.heap L ∧ FrameEnd U o U' L ({ frames := 0, cells := 0, slots := 0, locals := 0 } : Room).cells ({ frames := 0, cells := 0, slots := 0, locals := 0 } : Room).slots) := by
  refine MetFree.of_bodySF (plainFor_of_name pn_9) hisR ?_
  intro p e s m args below meth c s₁ Bd hml0 hP hK
  obtain ⟨rfl, hZ, hh⟩ := hP
  have hnm := (name_of_methodNamed Bd.named Bd.method).1
  have C : own_C p s m c prog_69_method_4_code "com/example/anchovy/anchovy/model/IntervalType" Z 1 := ⟨Bd.exec, Bd.bytes, hZ, findClass_of_methodNamed Bd.named, hml0⟩
  have X0 : Stand p l e ({ frames := 0, cells := 0, slots := 0, locals := 0 } : Room) s m #[(.ref a1)] below meth c s₁ [] 0 0 := Stand.of_body Bd
  have e0 : s₁.heap = h0 := by rw [← hh, Bd.state]; rfl
  have N0 := Fr.nil n0
  show own_E p e below (own_R s below (Q9 Z a1 lo hi h0 n0) ({ frames := 0, cells := 0, slots := 0, locals := 0 } : Room).cells ({ frames := 0, cells := 0, slots := 0, locals := 0 } : Room).slots) s₁ (entryFrame m #[(.ref a1)] 1)
  rw [ef_9]
  refine own_aloadN C X0 d9_0 rfl rfl rfl ?_
  refine own_getF C X0 (hw _ (List.mem_of_getElem? (i := 42) rfl)) Via.refl e0 F2 d9_1 rfl fun T1_ X1_ e1_ => ?_
  refine own_i2l C X1_ d9_4 rfl ?_
  refine own_aloadN C X1_ d9_5 rfl rfl rfl ?_
  refine own_getF C X1_ (hw _ (List.mem_of_getElem? (i := 40) rfl)) Via.refl e1_ F1 d9_6 rfl fun T2_ X2_ e2_ => ?_
  refine own_i2l C X2_ d9_9 rfl ?_
  refine own_lsub C X2_ d9_10 rfl ?_
  refine own_lconst C X2_ (1) d9_11 rfl rfl ?_
  refine own_ladd C X2_ d9_12 rfl ?_
  have ee := e2_
  exact own_retJ C X2_ Bd.returns Bd.notSynchronized (by decide) (by decide) d9_13 ⟨rfl, N0, ee⟩
theorem pd_1 : parseMethodDescriptor "(II)I" = some ⟨[.int, .int], some .int⟩ := by decide +kernel
theorem pd_7 : parseMethodDescriptor "(I)J" = some ⟨[.int], some .long⟩ := by decide +kernel
theorem pd_8 : parseMethodDescriptor "(J)I" = some ⟨[.long], some .int⟩ := by decide +kernel
theorem pd_9 : parseMethodDescriptor "()J" = some ⟨[], some .long⟩ := by decide +kernel
theorem own_wS {Z : State} {a0 : Array Value} (hw : ∀ d ∈ tables_1, d.before a0 Z = true) : ∀ a ∈ Bundle.stringAtoms, a.before a0 Z = true := by
  intro a ha
  simp only [Bundle.stringAtoms, List.mem_cons, List.not_mem_nil, or_false] at ha
  rcases ha with rfl | rfl | rfl | rfl | rfl | rfl | rfl
  · exact (hw _ (List.mem_of_getElem? (i := 9) rfl))
  · exact (hw _ (List.mem_of_getElem? (i := 10) rfl))
  · exact (hw _ (List.mem_of_getElem? (i := 11) rfl))
  · exact (hw _ (List.mem_of_getElem? (i := 12) rfl))
  · exact (hw _ (List.mem_of_getElem? (i := 13) rfl))
  · exact (hw _ (List.mem_of_getElem? (i := 14) rfl))
  · exact (hw _ (List.mem_of_getElem? (i := 15) rfl))
theorem pn_0 : plainName "com/example/anchovy/anchovy/model/IntervalTypePositionOfPinLaw" = true := by first | (simp [plainName, overriddenIn]; done) | decide +kernel
def Q0 (Z : State) (i0 : Int32) (i1 : Int32) (i2 : Int32) (i3 : Int32) (h0 : Heap) (n0 : Nat) (v : Option Value) (h : Heap) (L : List Loc) : Prop := v = some (.int 1) ∧ Fr n0 L
theorem ef_0 (m : MethodId) (i0 : Int32) (i1 : Int32) (i2 : Int32) (i3 : Int32) : entryFrame m #[(.int i0), (.int i1), (.int i2), (.int i3)] maxLocals = mkF m 0 #[.val (.int i0), .val (.int i1), .val (.int i2), .val (.int i3), .unset, .unset, .unset, .unset, .unset, .unset, .unset, .unset, .unset, .unset, .unset, .unset, .unset, .unset] [] := by first | (simp [entryFrame, mkF, argsToLocals, Value.category, maxLocals]; done) | rfl
set_option maxRecDepth 65536 in
set_option maxHeartbeats 40000000 in
theorem rm0 (l : Launch) (Z : State) (a0 : Array Value) (hw : ∀ d ∈ tables_1, d.before a0 Z = true) (ws : List Jvm.Cond) (i0 : Int32) (i1 : Int32) (i2 : Int32) (i3 : Int32) (h0 : Heap) (n0 : Nat) (Z0 : n0 ≤ h0.size)  :
    MetFree l x (head1 (Jvm.Cond.code x code maxLocals ret :: ws) room_1) (fun a U => a = #[(.int i0), (.int i1), (.int i2), (.int i3)] ∧ Z.Warmed39 U.vm ∧ U.heap = h0) (fun _ _ _ _ _ => True) (fun _ U o U' => ∃ v L, o = .returned v ∧ Q0 Z i0 i1 i2 i3 h0 n0 v U'.heap L ∧ ReturnedEndW U o U' L 16 1152) := by
  refine MetFree.of_bodySF (plainFor_of_name pn_0) hisR ?_
  intro p e s m args below meth c s₁ Bd hml0 hP hK
  obtain ⟨rfl, hZ, hh⟩ := hP
  have hnm := (name_of_methodNamed Bd.named Bd.method).1
  have C : own_C p s m c code "com/example/anchovy/anchovy/model/IntervalTypePositionOfPinLaw" Z 18 := ⟨Bd.exec, Bd.bytes, hZ, findClass_of_methodNamed Bd.named, hml0⟩
  have X0 : Stand p l e room_1 s m #[(.int i0), (.int i1), (.int i2), (.int i3)] below meth c s₁ [] 0 0 := Stand.of_body Bd
  have e0 : s₁.heap = h0 := by rw [← hh, Bd.state]; rfl
  have N0 := Fr.nil n0
  show own_E p e below (own_RW s below (Q0 Z i0 i1 i2 i3 h0 n0) 16 1152) s₁ (entryFrame m #[(.int i0), (.int i1), (.int i2), (.int i3)] maxLocals)
  rw [ef_0]
  have J : ∀ lo : Int32, ¬ lo = -2147483648 → own_E p e below (own_RW s below (Q0 Z i0 i1 i2 i3 h0 n0) 16 1152) s₁ (mkF m 13 #[.val (.int i0), .val (.int i1), .val (.int i2), .val (.int i3), .unset, .unset, .unset, .unset, .unset, .unset, .unset, .unset, .unset, .unset, .unset, .unset, .unset, .unset] [.int lo]) := by
    intro lo hlo
    refine own_istore (L' := #[_, _, _, _, _, _, _, _, _, _, _, _, _, _, _, _, _, _]) C X0 at_13 rfl rfl ?_
    refine own_iload C X0 at_15 rfl rfl ?_
    refine own_iloadN C X0 at_17 rfl rfl ?_
    refine own_callS C X0 0 [.int lo, .int i1] (hw _ (List.mem_of_getElem? (i := 1) rfl)) (hw _ (List.mem_of_getElem? (i := 2) rfl)) (hw _ (List.mem_of_getElem? (i := 3) rfl)) (hw _ (List.mem_of_getElem? (i := 4) rfl)) (by decide) e0 (rm1 l Z a0 hw [] lo i1 h0 n0 Z0) rfl (by decide) (by decide) rfl (lenOf pd_1 rfl) rfl (Nat.le_of_eq rfl) (by decide) (by decide) at_18 rfl (fun _ _ _ q => q.1) fun T1_ L1_ X1_ Q1_ => ?_
    obtain ⟨-, N1q, H1⟩ := Q1_
    have N1 := Fr.app N0 N1q
    have hge := own_maxG lo i1
    generalize own_max lo i1 = hi at hge
    have hle : ¬ hi < lo := fun q => by rw [Int32.lt_iff_toInt_lt] at q; omega
    refine own_istore (L' := #[_, _, _, _, _, _, _, _, _, _, _, _, _, _, _, _, _, _]) C X1_ at_21 rfl rfl ?_
    refine own_iload C X1_ at_23 rfl rfl ?_
    refine own_i2l C X1_ at_25 rfl ?_
    refine own_iload C X1_ at_26 rfl rfl ?_
    refine own_i2l C X1_ at_28 rfl ?_
    refine own_lsub C X1_ at_29 rfl ?_
    refine own_lconst C X1_ (1) at_30 rfl rfl ?_
    refine own_ladd C X1_ at_31 rfl ?_
    refine own_l2i C X1_ at_32 rfl ?_
    have hq := own_size lo hi
    generalize (hi.toInt64 - lo.toInt64 + 1).toInt32 = sz at hq
    refine own_istore (L' := #[_, _, _, _, _, _, _, _, _, _, _, _, _, _, _, _, _, _]) C X1_ at_33 rfl rfl ?_
    have z1 : n0 ≤ T1_.heap.size := by rw [H1]; exact Z0
    refine own_newO C X1_ (hw _ (List.mem_of_getElem? (i := 5) rfl)) (hw _ (List.mem_of_getElem? (i := 6) rfl)) (hw _ (List.mem_of_getElem? (i := 7) rfl)) rfl (by decide) (by decide) at_35 rfl fun T2_ h2_ a2_ X2_ e2_ g2_ E2_ A2_ D2_ => ?_
    have ga : n0 ≤ a2_ := by rw [g2_]; exact z1
    have z2 := Nat.le_trans z1 E2_.1
    have H_name : Fld Z h2_ a2_ "com/example/anchovy/anchovy/model/Type" "name" "Ljava/lang/String;" (.null) := D2_ (Or.inr (hw _ (List.mem_of_getElem? (i := 38) rfl))) (ty := .object "java/lang/String") (by decide)
    have H_lowest : Fld Z h2_ a2_ "com/example/anchovy/anchovy/model/IntervalType" "lowest" "I" (.int 0) := D2_ (Or.inr (hw _ (List.mem_of_getElem? (i := 41) rfl))) (ty := .int) (by decide)
    have H_highest : Fld Z h2_ a2_ "com/example/anchovy/anchovy/model/IntervalType" "highest" "I" (.int 0) := D2_ (Or.inr (hw _ (List.mem_of_getElem? (i := 43) rfl))) (ty := .int) (by decide)
    refine own_dup C X2_ at_38 rfl rfl ?_
    refine own_ldcS C X2_ (n := 4) (hw _ (List.mem_of_getElem? (i := 8) rfl)) (own_wS hw) e2_ (by decide) (by decide) (by decide) (by decide) at_39 rfl fun T3_ h3_ a3_ k3_ C3_ X3_ e3_ E3_ S3_ b3_ => ?_
    have z3 := Nat.le_trans z2 E3_.1
    have I_name := H_name.ext E3_
    have I_lowest := H_lowest.ext E3_
    have I_highest := H_highest.ext E3_
    refine own_iload C3_ X3_ at_41 rfl rfl ?_
    refine own_iload C3_ X3_ at_43 rfl rfl ?_
    refine own_callI C3_ X3_ 1 [.ref a3_, .int lo, .int sz] (hw _ (List.mem_of_getElem? (i := 16) rfl)) rfl (hw _ (List.mem_of_getElem? (i := 17) rfl)) (hw _ (List.mem_of_getElem? (i := 7) rfl)) (hw _ (List.mem_of_getElem? (i := 18) rfl)) (by decide) e3_ (rm2 l Z a0 hw [] a2_ a3_ lo hi sz h3_ n0 z3 (A2_.ext E3_) I_name I_lowest I_highest ga hlo hle hq) rfl (by decide) (by decide) rfl (lenOf pd_I rfl) rfl (Nat.le_of_eq rfl) (by decide) (by decide) at_45 rfl (fun _ _ _ q => q.1) fun T4_ L4_ X4_ Q4_ => ?_
    obtain ⟨-, N2q, K2, EA, G1, G2⟩ := Q4_
    have N2 := Fr.app N1 N2q
    have z4 := Nat.le_trans z3 K2.1
    have zk := Nat.le_trans b3_ K2.1
    have J2 : ∀ mm u : Int32, own_E p e below (own_RW s below (Q0 Z i0 i1 i2 i3 h0 n0) 16 1152) T4_ (mkF m 154 #[.val (.int i0), .val (.int i1), .val (.int i2), .val (.int i3), .val (.int lo), .val (.int hi), .val (.int sz), .val (.ref a2_), .val (.int mm), .val (.int u), .unset, .unset, .unset, .unset, .unset, .unset, .unset, .unset] []) := by
      intro mm u
      refine own_aload C3_ X4_ at_154 rfl rfl rfl ?_
      refine own_iload C3_ X4_ at_156 rfl rfl ?_
      refine own_callV C3_ X4_ 0 [.int u] (hw _ (List.mem_of_getElem? (i := 44) rfl)) (hw _ (List.mem_of_getElem? (i := 45) rfl)) (hw _ (List.mem_of_getElem? (i := 47) rfl)) (hw _ (List.mem_of_getElem? (i := 46) rfl)) (hw _ (List.mem_of_getElem? (i := 22) rfl)) (hw _ (List.mem_of_getElem? (i := 48) rfl)) EA (by decide) rfl (rm7 l Z a0 hw [] a2_ lo hi u T4_.heap n0 z4 G1 G2) rfl (by decide) (by decide) rfl (lenOf pd_7 rfl) rfl (Nat.le_of_eq rfl) (by decide) (by decide) at_158 rfl (fun _ _ _ q => q.1) fun T5_ L5_ X5_ Q5_ => ?_
      obtain ⟨-, N3q, H3⟩ := Q5_
      have N3 := Fr.app N2 N3q
      have zk3 := zk
      rw [← H3] at zk3
      have d1 := own_dd u lo
      have d2 := own_dd hi lo
      have d3 := own_dd1 hi lo
      by_cases c1 : u < lo
      · have r1 : own_pos lo hi u = -1 := by rw [own_pos, if_pos c1]
        rw [r1]
        refine own_lstore (L' := #[_, _, _, _, _, _, _, _, _, _, _, _, _, _, _, _, _, _]) C3_ X5_ at_161 rfl rfl ?_
        refine own_iload C3_ X5_ at_163 rfl rfl ?_
        refine own_i2l C3_ X5_ at_165 rfl ?_
        refine own_iload C3_ X5_ at_166 rfl rfl ?_
        refine own_i2l C3_ X5_ at_168 rfl ?_
        refine own_lsub C3_ X5_ at_169 rfl ?_
        refine own_lstore (L' := #[_, _, _, _, _, _, _, _, _, _, _, _, _, _, _, _, _, _]) C3_ X5_ at_170 rfl rfl ?_
        refine own_iload C3_ X5_ at_172 rfl rfl ?_
        refine own_i2l C3_ X5_ at_174 rfl ?_
        refine own_iload C3_ X5_ at_175 rfl rfl ?_
        refine own_i2l C3_ X5_ at_177 rfl ?_
        refine own_lsub C3_ X5_ at_178 rfl ?_
        refine own_lstore (L' := #[_, _, _, _, _, _, _, _, _, _, _, _, _, _, _, _, _, _]) C3_ X5_ at_179 rfl rfl ?_
        refine own_lload C3_ X5_ at_181 rfl rfl ?_
        refine own_lconst C3_ X5_ (0) at_183 rfl rfl ?_
        have t1 : u.toInt64 - lo.toInt64 < 0 := by rw [own_lt64, own_z64, d1]; rw [Int32.lt_iff_toInt_lt] at c1; omega
        refine own_lcmp C3_ X5_ at_184 rfl ?_
        refine own_ifY (pc' := 201) C3_ X5_ at_185 ((if0 _ _).trans (tlt ((lw_lt _ _).mpr t1)).1) (by decide) (by decide) ?_
        refine own_ldcJ C3_ X5_ (hw _ (List.mem_of_getElem? (i := 60) rfl)) at_201 rfl ?_
        refine own_lstore (L' := #[_, _, _, _, _, _, _, _, _, _, _, _, _, _, _, _, _, _]) C3_ X5_ at_204 rfl rfl ?_
        refine own_lload C3_ X5_ at_206 rfl rfl ?_
        refine own_lload C3_ X5_ at_208 rfl rfl ?_
        refine own_lcmp C3_ X5_ at_210 rfl ?_
        refine own_ifY (pc' := 216) C3_ X5_ at_211 ((if0 _ _).trans (teq ((lw_eq _ _).mpr rfl)).1) (by decide) (by decide) ?_
        refine own_lload C3_ X5_ at_216 rfl rfl ?_
        refine own_lconst C3_ X5_ (0) at_218 rfl rfl ?_
        refine own_lcmp C3_ X5_ at_219 rfl ?_
        refine own_ifY (pc' := 252) C3_ X5_ at_220 ((if0 _ _).trans (tlt ((lw_lt _ _).mpr (show (-1 : Int64) < 0 by decide))).1) (by decide) (by decide) ?_
        refine own_iconst C3_ X5_ (1) at_252 rfl rfl ?_
        exact own_retNW C3_ X5_ S3_ zk3 Bd.returns (by simp) Bd.notSynchronized (by decide) (by decide) at_253 ⟨rfl, N3⟩
      by_cases c2 : hi < u
      · have r1 : own_pos lo hi u = -1 := by rw [own_pos, if_neg c1, if_pos c2]
        rw [r1]
        refine own_lstore (L' := #[_, _, _, _, _, _, _, _, _, _, _, _, _, _, _, _, _, _]) C3_ X5_ at_161 rfl rfl ?_
        refine own_iload C3_ X5_ at_163 rfl rfl ?_
        refine own_i2l C3_ X5_ at_165 rfl ?_
        refine own_iload C3_ X5_ at_166 rfl rfl ?_
        refine own_i2l C3_ X5_ at_168 rfl ?_
        refine own_lsub C3_ X5_ at_169 rfl ?_
        refine own_lstore (L' := #[_, _, _, _, _, _, _, _, _, _, _, _, _, _, _, _, _, _]) C3_ X5_ at_170 rfl rfl ?_
        refine own_iload C3_ X5_ at_172 rfl rfl ?_
        refine own_i2l C3_ X5_ at_174 rfl ?_
        refine own_iload C3_ X5_ at_175 rfl rfl ?_
        refine own_i2l C3_ X5_ at_177 rfl ?_
        refine own_lsub C3_ X5_ at_178 rfl ?_
        refine own_lstore (L' := #[_, _, _, _, _, _, _, _, _, _, _, _, _, _, _, _, _, _]) C3_ X5_ at_179 rfl rfl ?_
        refine own_lload C3_ X5_ at_181 rfl rfl ?_
        refine own_lconst C3_ X5_ (0) at_183 rfl rfl ?_
        have t1 : ¬ (u.toInt64 - lo.toInt64 < 0) := by rw [own_lt64, own_z64, d1]; rw [Int32.lt_iff_toInt_lt] at c1; omega
        have t2 : hi.toInt64 - lo.toInt64 < u.toInt64 - lo.toInt64 := by rw [own_lt64, d1, d2]; rw [Int32.lt_iff_toInt_lt] at c2; omega
        refine own_lcmp C3_ X5_ at_184 rfl ?_
        refine own_ifN C3_ X5_ at_185 ((if0 _ _).trans (flt (fun q => t1 ((lw_lt _ _).mp q))).1) rfl ?_
        refine own_lload C3_ X5_ at_188 rfl rfl ?_
        refine own_lload C3_ X5_ at_190 rfl rfl ?_
        refine own_lcmp C3_ X5_ at_192 rfl ?_
        refine own_ifY (pc' := 201) C3_ X5_ at_193 ((if0 _ _).trans (tlt ((lw_gt _ _).mpr t2)).2.2.1) (by decide) (by decide) ?_
        refine own_ldcJ C3_ X5_ (hw _ (List.mem_of_getElem? (i := 60) rfl)) at_201 rfl ?_
        refine own_lstore (L' := #[_, _, _, _, _, _, _, _, _, _, _, _, _, _, _, _, _, _]) C3_ X5_ at_204 rfl rfl ?_
        refine own_lload C3_ X5_ at_206 rfl rfl ?_
        refine own_lload C3_ X5_ at_208 rfl rfl ?_
        refine own_lcmp C3_ X5_ at_210 rfl ?_
        refine own_ifY (pc' := 216) C3_ X5_ at_211 ((if0 _ _).trans (teq ((lw_eq _ _).mpr rfl)).1) (by decide) (by decide) ?_
        refine own_lload C3_ X5_ at_216 rfl rfl ?_
        refine own_lconst C3_ X5_ (0) at_218 rfl rfl ?_
        refine own_lcmp C3_ X5_ at_219 rfl ?_
        refine own_ifY (pc' := 252) C3_ X5_ at_220 ((if0 _ _).trans (tlt ((lw_lt _ _).mpr (show (-1 : Int64) < 0 by decide))).1) (by decide) (by decide) ?_
        refine own_iconst C3_ X5_ (1) at_252 rfl rfl ?_
        exact own_retNW C3_ X5_ S3_ zk3 Bd.returns (by simp) Bd.notSynchronized (by decide) (by decide) at_253 ⟨rfl, N3⟩
      have r1 : own_pos lo hi u = u.toInt64 - lo.toInt64 := by rw [own_pos, if_neg c1, if_neg c2]
      rw [r1]
      have t1 : ¬ (u.toInt64 - lo.toInt64 < 0) := by rw [own_lt64, own_z64, d1]; rw [Int32.lt_iff_toInt_lt] at c1; omega
      have t2 : ¬ (hi.toInt64 - lo.toInt64 < u.toInt64 - lo.toInt64) := by rw [own_lt64, d1, d2]; rw [Int32.lt_iff_toInt_lt] at c2; omega
      have t3 : u.toInt64 - lo.toInt64 < hi.toInt64 - lo.toInt64 + 1 := by rw [own_lt64, d1, d3]; rw [Int32.lt_iff_toInt_lt] at c2; omega
      refine own_lstore (L' := #[_, _, _, _, _, _, _, _, _, _, _, _, _, _, _, _, _, _]) C3_ X5_ at_161 rfl rfl ?_
      refine own_iload C3_ X5_ at_163 rfl rfl ?_
      refine own_i2l C3_ X5_ at_165 rfl ?_
      refine own_iload C3_ X5_ at_166 rfl rfl ?_
      refine own_i2l C3_ X5_ at_168 rfl ?_
      refine own_lsub C3_ X5_ at_169 rfl ?_
      refine own_lstore (L' := #[_, _, _, _, _, _, _, _, _, _, _, _, _, _, _, _, _, _]) C3_ X5_ at_170 rfl rfl ?_
      refine own_iload C3_ X5_ at_172 rfl rfl ?_
      refine own_i2l C3_ X5_ at_174 rfl ?_
      refine own_iload C3_ X5_ at_175 rfl rfl ?_
      refine own_i2l C3_ X5_ at_177 rfl ?_
      refine own_lsub C3_ X5_ at_178 rfl ?_
      refine own_lstore (L' := #[_, _, _, _, _, _, _, _, _, _, _, _, _, _, _, _, _, _]) C3_ X5_ at_179 rfl rfl ?_
      refine own_lload C3_ X5_ at_181 rfl rfl ?_
      refine own_lconst C3_ X5_ (0) at_183 rfl rfl ?_
      refine own_lcmp C3_ X5_ at_184 rfl ?_
      refine own_ifN C3_ X5_ at_185 ((if0 _ _).trans (flt (fun q => t1 ((lw_lt _ _).mp q))).1) rfl ?_
      refine own_lload C3_ X5_ at_188 rfl rfl ?_
      refine own_lload C3_ X5_ at_190 rfl rfl ?_
      refine own_lcmp C3_ X5_ at_192 rfl ?_
      refine own_ifN C3_ X5_ at_193 ((if0 _ _).trans (flt (fun q => t2 ((lw_gt _ _).mp q))).2.2.1) rfl ?_
      refine own_lload C3_ X5_ at_196 rfl rfl ?_
      refine own_goto (pc' := 204) C3_ X5_ at_198 (by decide) (by decide) ?_
      refine own_lstore (L' := #[_, _, _, _, _, _, _, _, _, _, _, _, _, _, _, _, _, _]) C3_ X5_ at_204 rfl rfl ?_
      refine own_lload C3_ X5_ at_206 rfl rfl ?_
      refine own_lload C3_ X5_ at_208 rfl rfl ?_
      refine own_lcmp C3_ X5_ at_210 rfl ?_
      refine own_ifY (pc' := 216) C3_ X5_ at_211 ((if0 _ _).trans (teq ((lw_eq _ _).mpr rfl)).1) (by decide) (by decide) ?_
      refine own_lload C3_ X5_ at_216 rfl rfl ?_
      refine own_lconst C3_ X5_ (0) at_218 rfl rfl ?_
      refine own_lcmp C3_ X5_ at_219 rfl ?_
      refine own_ifN C3_ X5_ at_220 ((if0 _ _).trans (flt (fun q => t1 ((lw_lt _ _).mp q))).1) rfl ?_
      refine own_aload C3_ X5_ at_223 rfl rfl rfl ?_
      refine own_lload C3_ X5_ at_225 rfl rfl ?_
      refine own_callV C3_ X5_ 0 [.long (u.toInt64 - lo.toInt64)] (hw _ (List.mem_of_getElem? (i := 49) rfl)) (hw _ (List.mem_of_getElem? (i := 50) rfl)) (hw _ (List.mem_of_getElem? (i := 52) rfl)) (hw _ (List.mem_of_getElem? (i := 51) rfl)) (hw _ (List.mem_of_getElem? (i := 22) rfl)) (hw _ (List.mem_of_getElem? (i := 53) rfl)) (by rw [H3]; exact EA) (by decide) rfl (rm8 l Z a0 hw [] a2_ lo hi _ T5_.heap n0 (by rw [H3]; exact z4) (by rw [H3]; exact G1) (by rw [H3]; exact G2)) rfl (by decide) (by decide) rfl (lenOf pd_8 rfl) rfl (Nat.le_of_eq rfl) (by decide) (by decide) at_227 rfl (fun _ _ _ q => q.1) fun T6_ L6_ X6_ Q6_ => ?_
      obtain ⟨-, N4q, H4⟩ := Q6_
      have N4 := Fr.app N3 N4q
      have H5 := H4.trans H3
      refine own_iload C3_ X6_ at_230 rfl rfl ?_
      refine own_icmpN C3_ X6_ at_232 (teq (own_back lo u)).2 rfl ?_
      refine own_lload C3_ X6_ at_235 rfl rfl ?_
      refine own_aload C3_ X6_ at_237 rfl rfl rfl ?_
      refine own_callV C3_ X6_ 2 [] (hw _ (List.mem_of_getElem? (i := 54) rfl)) (hw _ (List.mem_of_getElem? (i := 55) rfl)) (hw _ (List.mem_of_getElem? (i := 57) rfl)) (hw _ (List.mem_of_getElem? (i := 56) rfl)) (hw _ (List.mem_of_getElem? (i := 22) rfl)) (hw _ (List.mem_of_getElem? (i := 58) rfl)) (by rw [H5]; exact EA) (by decide) rfl (rm9 l Z a0 hw [] a2_ lo hi T6_.heap n0 (by rw [H5]; exact z4) (by rw [H5]; exact G1) (by rw [H5]; exact G2)) rfl (by decide) (by decide) rfl (lenOf pd_9 rfl) rfl (Nat.le_of_eq rfl) (by decide) (by decide) at_239 rfl (fun _ _ _ q => q.1) fun T7_ L7_ X7_ Q7_ => ?_
      obtain ⟨-, N5q, H6⟩ := Q7_
      have N5 := Fr.app N4 N5q
      refine own_lcmp C3_ X7_ at_242 rfl ?_
      refine own_ifN C3_ X7_ at_243 ((if0 _ _).trans (tlt ((lw_lt _ _).mpr t3)).2.1) rfl ?_
      refine own_iconst C3_ X7_ (1) at_246 rfl rfl ?_
      refine own_goto (pc' := 251) C3_ X7_ at_247 (by decide) (by decide) ?_
      exact own_retNW C3_ X7_ S3_ (by rw [H6, H5]; exact zk) Bd.returns (by simp) Bd.notSynchronized (by decide) (by decide) at_251 ⟨rfl, N5⟩
    refine own_astore (L' := #[_, _, _, _, _, _, _, _, _, _, _, _, _, _, _, _, _, _]) C3_ X4_ at_48 rfl rfl rfl ?_
    refine own_iloadN C3_ X4_ at_50 rfl rfl ?_
    refine own_bipush C3_ X4_ (7) at_51 rfl rfl ?_
    refine own_iand C3_ X4_ at_53 rfl ?_
    refine own_istore (L' := #[_, _, _, _, _, _, _, _, _, _, _, _, _, _, _, _, _, _]) C3_ X4_ at_54 rfl rfl ?_
    generalize (i3 &&& 7) = mm
    refine own_iload C3_ X4_ at_56 rfl rfl ?_
    refine own_iconst C3_ X4_ (1) at_58 rfl rfl ?_
    by_cases b1 : mm = 1
    · subst b1
      refine own_icmpN C3_ X4_ at_59 (teq rfl).2 rfl ?_
      refine own_iload C3_ X4_ at_62 rfl rfl ?_
      refine own_istore (L' := #[_, _, _, _, _, _, _, _, _, _, _, _, _, _, _, _, _, _]) C3_ X4_ at_64 rfl rfl ?_
      refine own_goto (pc' := 154) C3_ X4_ at_66 (by decide) (by decide) ?_
      exact J2 _ _
    refine own_icmpY (pc' := 69) C3_ X4_ at_59 (feq b1).2 (by decide) (by decide) ?_
    refine own_iload C3_ X4_ at_69 rfl rfl ?_
    refine own_iconst C3_ X4_ (2) at_71 rfl rfl ?_
    by_cases b2 : mm = 2
    · subst b2
      refine own_icmpN C3_ X4_ at_72 (teq rfl).2 rfl ?_
      refine own_iload C3_ X4_ at_75 rfl rfl ?_
      refine own_istore (L' := #[_, _, _, _, _, _, _, _, _, _, _, _, _, _, _, _, _, _]) C3_ X4_ at_77 rfl rfl ?_
      refine own_goto (pc' := 154) C3_ X4_ at_79 (by decide) (by decide) ?_
      exact J2 _ _
    refine own_icmpY (pc' := 82) C3_ X4_ at_72 (feq b2).2 (by decide) (by decide) ?_
    refine own_iload C3_ X4_ at_82 rfl rfl ?_
    refine own_iconst C3_ X4_ (3) at_84 rfl rfl ?_
    by_cases b3 : mm = 3
    · subst b3
      refine own_icmpN C3_ X4_ at_85 (teq rfl).2 rfl ?_
      refine own_iload C3_ X4_ at_88 rfl rfl ?_
      refine own_iconst C3_ X4_ (1) at_90 rfl rfl ?_
      refine own_isub C3_ X4_ at_91 rfl ?_
      refine own_istore (L' := #[_, _, _, _, _, _, _, _, _, _, _, _, _, _, _, _, _, _]) C3_ X4_ at_92 rfl rfl ?_
      refine own_goto (pc' := 154) C3_ X4_ at_94 (by decide) (by decide) ?_
      exact J2 _ _
    refine own_icmpY (pc' := 97) C3_ X4_ at_85 (feq b3).2 (by decide) (by decide) ?_
    refine own_iload C3_ X4_ at_97 rfl rfl ?_
    refine own_iconst C3_ X4_ (4) at_99 rfl rfl ?_
    by_cases b4 : mm = 4
    · subst b4
      refine own_icmpN C3_ X4_ at_100 (teq rfl).2 rfl ?_
      refine own_iload C3_ X4_ at_103 rfl rfl ?_
      refine own_iconst C3_ X4_ (1) at_105 rfl rfl ?_
      refine own_iadd C3_ X4_ at_106 rfl ?_
      refine own_istore (L' := #[_, _, _, _, _, _, _, _, _, _, _, _, _, _, _, _, _, _]) C3_ X4_ at_107 rfl rfl ?_
      refine own_goto (pc' := 154) C3_ X4_ at_109 (by decide) (by decide) ?_
      exact J2 _ _
    refine own_icmpY (pc' := 112) C3_ X4_ at_100 (feq b4).2 (by decide) (by decide) ?_
    refine own_iload C3_ X4_ at_112 rfl rfl ?_
    refine own_iconst C3_ X4_ (5) at_114 rfl rfl ?_
    by_cases b5 : mm = 5
    · subst b5
      refine own_icmpN C3_ X4_ at_115 (teq rfl).2 rfl ?_
      refine own_iload C3_ X4_ at_118 rfl rfl ?_
      refine own_iloadN C3_ X4_ at_120 rfl rfl ?_
      refine own_sipush C3_ X4_ (255) at_121 rfl rfl ?_
      refine own_iand C3_ X4_ at_124 rfl ?_
      refine own_iadd C3_ X4_ at_125 rfl ?_
      refine own_istore (L' := #[_, _, _, _, _, _, _, _, _, _, _, _, _, _, _, _, _, _]) C3_ X4_ at_126 rfl rfl ?_
      refine own_goto (pc' := 154) C3_ X4_ at_128 (by decide) (by decide) ?_
      exact J2 _ _
    refine own_icmpY (pc' := 131) C3_ X4_ at_115 (feq b5).2 (by decide) (by decide) ?_
    refine own_iload C3_ X4_ at_131 rfl rfl ?_
    refine own_bipush C3_ X4_ (6) at_133 rfl rfl ?_
    by_cases b6 : mm = 6
    · subst b6
      refine own_icmpN C3_ X4_ at_135 (teq rfl).2 rfl ?_
      refine own_iload C3_ X4_ at_138 rfl rfl ?_
      refine own_iloadN C3_ X4_ at_140 rfl rfl ?_
      refine own_sipush C3_ X4_ (255) at_141 rfl rfl ?_
      refine own_iand C3_ X4_ at_144 rfl ?_
      refine own_isub C3_ X4_ at_145 rfl ?_
      refine own_istore (L' := #[_, _, _, _, _, _, _, _, _, _, _, _, _, _, _, _, _, _]) C3_ X4_ at_146 rfl rfl ?_
      refine own_goto (pc' := 154) C3_ X4_ at_148 (by decide) (by decide) ?_
      exact J2 _ _
    refine own_icmpY (pc' := 151) C3_ X4_ at_135 (feq b6).2 (by decide) (by decide) ?_
    refine own_iloadN C3_ X4_ at_151 rfl rfl ?_
    refine own_istore (L' := #[_, _, _, _, _, _, _, _, _, _, _, _, _, _, _, _, _, _]) C3_ X4_ at_152 rfl rfl ?_
    exact J2 _ _
  refine own_iloadN C X0 at_0 rfl rfl ?_
  refine own_ldcI C X0 (hw _ (List.mem_of_getElem? (i := 0) rfl)) at_1 rfl ?_
  by_cases b : i0 = -2147483648
  · refine own_icmpN C X0 at_3 (teq b).2 rfl ?_
    refine own_iloadN C X0 at_6 rfl rfl ?_
    refine own_iconst C X0 (1) at_7 rfl rfl ?_
    refine own_iadd C X0 at_8 rfl ?_
    refine own_goto (pc' := 13) C X0 at_9 (by decide) (by decide) ?_
    exact J _ (by rw [b]; decide)
  · refine own_icmpY (pc' := 12) C X0 at_3 (feq b).2 (by decide) (by decide) ?_
    refine own_iloadN C X0 at_12 rfl rfl ?_
    exact J _ b
set_option maxRecDepth 65536 in
set_option maxHeartbeats 40000000 in
theorem comes_1 {Post : Tables → Env → Array Value → State → Outcome → State → Prop} (hpost : ∀ tb e args s v u, (limb_1_1.after args s (.returned v) u = true ∧ limb_1_2.after args s (.returned v) u = true ∧ True) → ReturnedEndW s (.returned v) u (Jvm.fieldLocs frame_1_writes args s ++ Jvm.arrayLocs frame_1_arrays args s ++ Jvm.staticLocs frame_1_statics s) 16 1152 → Post tb e args s (.returned v) u) :
    ArmFor flags0 classFile x code maxLocals ret World_1 tables_1 room_1 Calls_1 rest_1 Pre_1 Post := by
  intro l hfl _ _ p e ha hc hk s m args below hf hA hF happ hP
  obtain ⟨hcalls, hrest, hpre⟩ := hP
  obtain ⟨-, -, -, hnamed, -, -, -, hat⟩ := (Spec.applies_iff hf).mp happ
  obtain ⟨hg, hn⟩ := and_e (Cond.before_iff.mp (show (Jvm.Cond.and given_1 narrow_1).before args s = true from hpre))
  obtain ⟨gc, r0⟩ := and_e hg
  obtain ⟨g0, r1⟩ := and_e r0
  obtain ⟨g1, r2⟩ := and_e r1
  obtain ⟨g2, r3⟩ := and_e r2
  have g3 := r3
  obtain ⟨w0, w1, w2, w3, rfl⟩ : ∃ w0 w1 w2 w3 : Value, args = #[w0, w1, w2, w3] := by
    have hs : args.size = 4 := by simpa [Cond.value, given_1] using gc
    obtain ⟨L⟩ := args
    match L, hs with
    | [w0, w1, w2, w3], _ => exact ⟨w0, w1, w2, w3, rfl⟩
  have hw := fun d (hd : d ∈ tables_1) => atoms_spec (ws := Jvm.Cond.code x code maxLocals ret :: tables_1) hat d (List.mem_cons_of_mem _ hd)
  obtain ⟨i0, ei0⟩ := is_v g0
  obtain rfl : w0 = (.int i0) := Option.some.inj ei0
  obtain ⟨i1, ei1⟩ := is_v g1
  obtain rfl : w1 = (.int i1) := Option.some.inj ei1
  obtain ⟨i2, ei2⟩ := is_v g2
  obtain rfl : w2 = (.int i2) := Option.some.inj ei2
  obtain ⟨i3, ei3⟩ := is_v g3
  obtain rfl : w3 = (.int i3) := Option.some.inj ei3
  obtain ⟨n, o, h1, h2, h3, _, L, rfl, ⟨rfl, N⟩, hq⟩ := rm0 l s _ hw tables_1 i0 i1 i2 i3 s.heap s.heap.size (Nat.le_refl _) p e ha hc hk s m _ below hf ((Spec.applies_iff_loose hf).mp happ).1 ⟨rfl, State.Warmed39.refl s, rfl⟩ trivial
  refine ⟨n, _, h1, h2, h3, hpost _ _ _ _ _ _ ⟨Cond.after_iff.mpr rfl, Cond.after_iff.mpr (eq_i res_at (Term.int_eval (1)) rfl), trivial⟩ ⟨hq.1, hq.2.1, hq.2.2.1, (hq.2.2.2.sift fun y hy => Or.inr (N y hy)).mono (by decide) (by decide)⟩⟩
theorem main_1_1 : Claimed_1_1 := comes_1 fun _ _ _ _ _ _ h hF => ⟨h.1, hF⟩
theorem main_1_2 : Claimed_1_2 := comes_1 fun _ _ _ _ _ _ h hF => ⟨h.2.1, hF⟩
end Jvm.Pilot.@@N@@
namespace Jvm.Pilot.@@N@@
open Jvm Jvm.ClassFile Sem Op Lib Jvm.Free Jvm.Stand Jvm.Pilot.@@N@@.Jvm.D
/-! MADE BY PROGRAM (witnessworld.py) out of the Statement's table words and the real class files: 18 classes; the members and pool entries that the words name. The judged class is class 1, her method 1. -/
namespace start1
open Jvm.ClassFile
def u (s : String) : CpInfo := .utf8 (stringToUtf16 s)
/-- a pool by its gaps: so many unusable entries, then the entry; so many at the end -/
def gap : Nat → List CpInfo → List CpInfo
  | 0, r => r
  | n + 1, r => .unusable :: gap n r
def poolList (es : List (Nat × CpInfo)) (last : Nat) : List CpInfo := es.foldr (fun e r => gap e.1 (e.2 :: r)) (gap last [])
def pool (es : List (Nat × CpInfo)) (last : Nat) : Array CpInfo := ⟨poolList es last⟩
def fileOf (pool : Array CpInfo) (this : Nat) (attrs : Array Attribute := #[]) (ms : Array MethodInfo := #[]) (fl : Nat := 33) (sup : Nat := 0) (ifs : Array Nat := #[]) (fds : Array FieldInfo := #[]) : ClassFile where
  minorVersion := 0
  majorVersion := 65
  constantPool := pool
  accessFlags := fl
  thisClass := this
  superClass := sup
  interfaces := ifs
  fields := fds
  methods := ms
  attributes := attrs
def plain (name : String) (sup : Option ClassId) : Class where
  name := name
  kind := .ordinary
  loader := none
  accessFlags := 33
  super := sup
  interfaces := #[]
  cf := none
  fields := #[]
  methods := #[]
  instanceTypes := #[]
  staticTypes := #[]
  resolved := #[]
  callSites := []
  init := .initialized
  statics := none
  mirror := none

def pool0 : Array CpInfo := pool [(5, u "<init>"), (0, u "()V"), (1, .class_ 10), (1, u "java/lang/Object")] 113

def k0c0 : Code := { maxStack := 0, maxLocals := 1, code := object_method_1_code, exceptionTable := #[], attributes := #[] }
def k0m0 : Method := { name := "<init>", desc := "()V", sig := { parameters := [], returnType := none }, accessFlags := 1, code := some k0c0 }
/-- java/lang/Object -/
def k0 : Class := { plain "java/lang/Object" none with
  accessFlags := 33
  interfaces := #[]
  cf := some (fileOf pool0 8 #[] #[{ accessFlags := 1, nameIndex := 5, descriptorIndex := 6, attributes := #[] }] 33 0 #[] #[])
  fields := #[]
  methods := #[k0m0]
  instanceTypes := #[]
  staticTypes := #[]
  resolved := Array.replicate 124 none
  statics := none }

def pool1 : Array CpInfo := pool [(2, .class_ 4), (1, u "java/lang/Object"), (0, u "<init>"), (0, u "()V"), (2, .integer 2147483648), (0, .methodref 11 12), (0, .class_ 13), (0, .nameAndType 14 15), (0, u "java/lang/Math"), (0, u "max"), (0, u "(II)I"), (0, .class_ 17), (0, u "com/example/anchovy/anchovy/model/ScalarsetType"), (0, .string 19), (0, u "T"), (0, .methodref 16 21), (0, .nameAndType 5 22), (0, u "(Ljava/lang/String;II)V"), (0, .methodref 24 25), (0, .class_ 26), (0, .nameAndType 27 28), (0, u "com/example/anchovy/anchovy/model/IntervalType"), (0, u "positionOf"), (0, u "(I)J"), (0, .long 18446744073709551615), (1, .methodref 24 32), (0, .nameAndType 33 34), (0, u "valueAt"), (0, u "(J)I"), (0, .methodref 24 36), (0, .nameAndType 37 38), (0, u "getSize"), (0, u "()J"), (0, .class_ 40), (0, u "com/example/anchovy/anchovy/model/IntervalTypePositionOfPinLaw"), (2, u "law"), (0, u "(IIII)Z")] 3

def k1m0 : Method := { name := "<init>", desc := "()V", sig := { parameters := [], returnType := none }, accessFlags := 1, code := none }
def k1c1 : Code := { maxStack := 5, maxLocals := 18, code := code, exceptionTable := #[], attributes := #[] }
def k1m1 : Method := { name := "law", desc := "(IIII)Z", sig := { parameters := [.int, .int, .int, .int], returnType := some .boolean }, accessFlags := 9, code := some k1c1 }
/-- com/example/anchovy/anchovy/model/IntervalTypePositionOfPinLaw -/
def k1 : Class := { plain "com/example/anchovy/anchovy/model/IntervalTypePositionOfPinLaw" (some 0) with
  accessFlags := 49
  interfaces := #[]
  cf := some (fileOf pool1 39 #[] #[{ accessFlags := 1, nameIndex := 5, descriptorIndex := 6, attributes := #[] }, { accessFlags := 9, nameIndex := 43, descriptorIndex := 44, attributes := #[] }] 49 2 #[] #[])
  fields := #[]
  methods := #[k1m0, k1m1]
  instanceTypes := #[]
  staticTypes := #[]
  resolved := Array.replicate 48 none
  statics := none }

def pool2 : Array CpInfo := pool [(1, .class_ 2), (0, u "java/lang/Math"), (1, .class_ 6), (1, u "java/lang/Object"), (0, u "<init>"), (0, u "()V"), (89, .class_ 100), (1, u "java/lang/Math$RandomNumberGeneratorHolder"), (71, u "negativeZeroFloatBits"), (0, u "J"), (2, u "negativeZeroDoubleBits"), (21, u "max"), (46, u "$assertionsDisabled"), (0, u "Z"), (88, u "(II)I"), (2, u "twoToTheDoubleScaleDown"), (0, u "D"), (4, u "twoToTheDoubleScaleUp"), (9, u "E"), (3, u "PI"), (2, u "TAU"), (2, u "DEGREES_TO_RADIANS"), (0, u "RADIANS_TO_DEGREES")] 94

def k2m0 : Method := { name := "<init>", desc := "()V", sig := { parameters := [], returnType := none }, accessFlags := 2, code := none }
def k2c1 : Code := { maxStack := 2, maxLocals := 2, code := jdk_29_method_65_code, exceptionTable := #[], attributes := #[] }
def k2m1 : Method := { name := "max", desc := "(II)I", sig := { parameters := [.int, .int], returnType := some .int }, accessFlags := 9, code := some k2c1 }
/-- java/lang/Math -/
def k2 : Class := { plain "java/lang/Math" (some 0) with
  accessFlags := 49
  interfaces := #[]
  cf := some (fileOf pool2 1 #[.nestMembers #[98]] #[{ accessFlags := 2, nameIndex := 7, descriptorIndex := 8, attributes := #[] }, { accessFlags := 9, nameIndex := 198, descriptorIndex := 335, attributes := #[] }] 49 4 #[] #[{ accessFlags := 25, nameIndex := 354, descriptorIndex := 339, attributes := #[] }, { accessFlags := 25, nameIndex := 358, descriptorIndex := 339, attributes := #[] }, { accessFlags := 25, nameIndex := 361, descriptorIndex := 339, attributes := #[] }, { accessFlags := 26, nameIndex := 364, descriptorIndex := 339, attributes := #[] }, { accessFlags := 26, nameIndex := 365, descriptorIndex := 339, attributes := #[] }, { accessFlags := 26, nameIndex := 172, descriptorIndex := 173, attributes := #[] }, { accessFlags := 26, nameIndex := 176, descriptorIndex := 173, attributes := #[] }, { accessFlags := 8, nameIndex := 344, descriptorIndex := 339, attributes := #[] }, { accessFlags := 8, nameIndex := 338, descriptorIndex := 339, attributes := #[] }, { accessFlags := 4120, nameIndex := 245, descriptorIndex := 246, attributes := #[] }])
  fields := #[{ name := "E", type := .double, accessFlags := 25, slot := 0, constantValue := 0 }, { name := "PI", type := .double, accessFlags := 25, slot := 1, constantValue := 0 }, { name := "TAU", type := .double, accessFlags := 25, slot := 2, constantValue := 0 }, { name := "DEGREES_TO_RADIANS", type := .double, accessFlags := 26, slot := 3, constantValue := 0 }, { name := "RADIANS_TO_DEGREES", type := .double, accessFlags := 26, slot := 4, constantValue := 0 }, { name := "negativeZeroFloatBits", type := .long, accessFlags := 26, slot := 5, constantValue := 0 }, { name := "negativeZeroDoubleBits", type := .long, accessFlags := 26, slot := 6, constantValue := 0 }, { name := "twoToTheDoubleScaleUp", type := .double, accessFlags := 8, slot := 7, constantValue := 0 }, { name := "twoToTheDoubleScaleDown", type := .double, accessFlags := 8, slot := 8, constantValue := 0 }, { name := "$assertionsDisabled", type := .boolean, accessFlags := 4120, slot := 9, constantValue := 0 }]
  methods := #[k2m0, k2m1]
  instanceTypes := #[]
  staticTypes := #[.double, .double, .double, .double, .double, .long, .long, .double, .double, .boolean]
  resolved := Array.replicate 460 none
  statics := none }

def pool3 : Array CpInfo := pool [(1, .methodref 2 3), (0, .class_ 4), (0, .nameAndType 5 6), (0, u "java/lang/Object"), (0, u "<init>"), (0, u "()V"), (0, .fieldref 8 9), (0, .class_ 10), (0, .nameAndType 11 12), (0, u "com/example/anchovy/anchovy/model/Type"), (0, u "name"), (0, u "Ljava/lang/String;"), (37, u "(Ljava/lang/String;)V")] 33

def k3c0 : Code := { maxStack := 2, maxLocals := 2, code := prog_107_method_1_code, exceptionTable := #[], attributes := #[] }
def k3m0 : Method := { name := "<init>", desc := "(Ljava/lang/String;)V", sig := { parameters := [(.object "java/lang/String")], returnType := none }, accessFlags := 4, code := some k3c0 }
/-- com/example/anchovy/anchovy/model/Type -/
def k3 : Class := { plain "com/example/anchovy/anchovy/model/Type" (some 0) with
  accessFlags := 1057
  interfaces := #[]
  cf := some (fileOf pool3 8 #[] #[{ accessFlags := 4, nameIndex := 5, descriptorIndex := 50, attributes := #[] }] 1057 2 #[] #[{ accessFlags := 18, nameIndex := 11, descriptorIndex := 12, attributes := #[] }])
  fields := #[{ name := "name", type := (.object "java/lang/String"), accessFlags := 18, slot := 0, constantValue := 0 }]
  methods := #[k3m0]
  instanceTypes := #[(.object "java/lang/String")]
  staticTypes := #[]
  resolved := Array.replicate 84 none
  statics := none }

def pool4 : Array CpInfo := pool [(1, .methodref 2 3), (0, .class_ 4), (0, .nameAndType 5 6), (0, u "com/example/anchovy/anchovy/model/Type"), (0, u "<init>"), (0, u "(Ljava/lang/String;)V"), (1, .class_ 10), (1, u "com/example/anchovy/anchovy/model/ScalarType")] 35

def k4c0 : Code := { maxStack := 2, maxLocals := 2, code := prog_99_method_1_code, exceptionTable := #[], attributes := #[] }
def k4m0 : Method := { name := "<init>", desc := "(Ljava/lang/String;)V", sig := { parameters := [(.object "java/lang/String")], returnType := none }, accessFlags := 4, code := some k4c0 }
/-- com/example/anchovy/anchovy/model/ScalarType -/
def k4 : Class := { plain "com/example/anchovy/anchovy/model/ScalarType" (some 3) with
  accessFlags := 1057
  interfaces := #[]
  cf := some (fileOf pool4 8 #[] #[{ accessFlags := 4, nameIndex := 5, descriptorIndex := 6, attributes := #[] }] 1057 2 #[] #[])
  fields := #[]
  methods := #[k4m0]
  instanceTypes := #[(.object "java/lang/String")]
  staticTypes := #[]
  resolved := Array.replicate 46 none
  statics := none }

def pool5 : Array CpInfo := pool [(1, .methodref 2 3), (0, .class_ 4), (0, .nameAndType 5 6), (0, u "com/example/anchovy/anchovy/model/ScalarType"), (0, u "<init>"), (0, u "(Ljava/lang/String;)V"), (2, .integer 2147483648), (7, .fieldref 18 19), (0, .class_ 20), (0, .nameAndType 21 22), (0, u "com/example/anchovy/anchovy/model/IntervalType"), (0, u "lowest"), (0, u "I"), (0, .fieldref 18 24), (0, .nameAndType 25 22), (0, u "highest"), (0, .long 18446744073709551615), (5, u "(Ljava/lang/String;II)V"), (8, u "getSize"), (0, u "()J"), (0, u "valueAt"), (0, u "(J)I"), (0, u "positionOf"), (0, u "(I)J")] 17

def k5c0 : Code := { maxStack := 4, maxLocals := 4, code := prog_69_method_1_code, exceptionTable := #[], attributes := #[] }
def k5m0 : Method := { name := "<init>", desc := "(Ljava/lang/String;II)V", sig := { parameters := [(.object "java/lang/String"), .int, .int], returnType := none }, accessFlags := 4, code := some k5c0 }
def k5c1 : Code := { maxStack := 4, maxLocals := 1, code := prog_69_method_4_code, exceptionTable := #[], attributes := #[] }
def k5m1 : Method := { name := "getSize", desc := "()J", sig := { parameters := [], returnType := some .long }, accessFlags := 17, code := some k5c1 }
def k5c2 : Code := { maxStack := 4, maxLocals := 3, code := prog_69_method_5_code, exceptionTable := #[], attributes := #[] }
def k5m2 : Method := { name := "valueAt", desc := "(J)I", sig := { parameters := [.long], returnType := some .int }, accessFlags := 17, code := some k5c2 }
def k5c3 : Code := { maxStack := 4, maxLocals := 2, code := prog_69_method_6_code, exceptionTable := #[], attributes := #[] }
def k5m3 : Method := { name := "positionOf", desc := "(I)J", sig := { parameters := [.int], returnType := some .long }, accessFlags := 17, code := some k5c3 }
/-- com/example/anchovy/anchovy/model/IntervalType -/
def k5 : Class := { plain "com/example/anchovy/anchovy/model/IntervalType" (some 4) with
  accessFlags := 1057
  interfaces := #[]
  cf := some (fileOf pool5 18 #[] #[{ accessFlags := 4, nameIndex := 5, descriptorIndex := 32, attributes := #[] }, { accessFlags := 17, nameIndex := 41, descriptorIndex := 42, attributes := #[] }, { accessFlags := 17, nameIndex := 43, descriptorIndex := 44, attributes := #[] }, { accessFlags := 17, nameIndex := 45, descriptorIndex := 46, attributes := #[] }] 1057 2 #[] #[{ accessFlags := 18, nameIndex := 21, descriptorIndex := 22, attributes := #[] }, { accessFlags := 18, nameIndex := 25, descriptorIndex := 22, attributes := #[] }])
  fields := #[{ name := "lowest", type := .int, accessFlags := 18, slot := 1, constantValue := 0 }, { name := "highest", type := .int, accessFlags := 18, slot := 2, constantValue := 0 }]
  methods := #[k5m0, k5m1, k5m2, k5m3]
  instanceTypes := #[(.object "java/lang/String"), .int, .int]
  staticTypes := #[]
  resolved := Array.replicate 64 none
  statics := none }

def pool6 : Array CpInfo := pool [(1, .methodref 2 3), (0, .class_ 4), (0, .nameAndType 5 6), (0, u "com/example/anchovy/anchovy/model/IntervalType"), (0, u "<init>"), (0, u "(Ljava/lang/String;II)V"), (1, .class_ 10), (1, u "com/example/anchovy/anchovy/model/ScalarsetType")] 31

def k6c0 : Code := { maxStack := 5, maxLocals := 4, code := prog_100_method_1_code, exceptionTable := #[], attributes := #[] }
def k6m0 : Method := { name := "<init>", desc := "(Ljava/lang/String;II)V", sig := { parameters := [(.object "java/lang/String"), .int, .int], returnType := none }, accessFlags := 1, code := some k6c0 }
/-- com/example/anchovy/anchovy/model/ScalarsetType -/
def k6 : Class := { plain "com/example/anchovy/anchovy/model/ScalarsetType" (some 5) with
  accessFlags := 49
  interfaces := #[]
  cf := some (fileOf pool6 8 #[] #[{ accessFlags := 1, nameIndex := 5, descriptorIndex := 6, attributes := #[] }] 49 2 #[] #[])
  fields := #[]
  methods := #[k6m0]
  instanceTypes := #[(.object "java/lang/String"), .int, .int]
  staticTypes := #[]
  resolved := Array.replicate 42 none
  statics := none }

def pool7 : Array CpInfo := pool [(1, .class_ 2), (0, u "java/io/Serializable"), (0, .class_ 4), (0, u "java/lang/Object")] 2

/-- java/io/Serializable -/
def k7 : Class := { plain "java/io/Serializable" (some 0) with
  accessFlags := 1537
  interfaces := #[]
  cf := some (fileOf pool7 1 #[] #[] 1537 3 #[] #[])
  fields := #[]
  methods := #[]
  instanceTypes := #[]
  staticTypes := #[]
  resolved := Array.replicate 7 none
  statics := none }

def pool8 : Array CpInfo := pool [(1, .class_ 2), (0, u "java/lang/Comparable"), (0, .class_ 4), (0, u "java/lang/Object")] 7

/-- java/lang/Comparable -/
def k8 : Class := { plain "java/lang/Comparable" (some 0) with
  accessFlags := 1537
  interfaces := #[]
  cf := some (fileOf pool8 1 #[] #[] 1537 3 #[] #[])
  fields := #[]
  methods := #[]
  instanceTypes := #[]
  staticTypes := #[]
  resolved := Array.replicate 12 none
  statics := none }

def pool9 : Array CpInfo := pool [(2, .class_ 4), (1, u "java/lang/CharSequence"), (42, .class_ 48), (0, u "java/lang/CharSequence$1CodePointIterator"), (10, .class_ 60), (0, u "java/lang/CharSequence$1CharIterator"), (5, .class_ 67), (0, u "java/lang/Object")] 63

/-- java/lang/CharSequence -/
def k9 : Class := { plain "java/lang/CharSequence" (some 0) with
  accessFlags := 1537
  interfaces := #[]
  cf := some (fileOf pool9 2 #[.nestMembers #[47, 59]] #[] 1537 66 #[] #[])
  fields := #[]
  methods := #[]
  instanceTypes := #[]
  staticTypes := #[]
  resolved := Array.replicate 131 none
  statics := none }

def pool10 : Array CpInfo := pool [(1, .class_ 2), (0, u "java/lang/constant/Constable"), (0, .class_ 4), (0, u "java/lang/Object")] 6

/-- java/lang/constant/Constable -/
def k10 : Class := { plain "java/lang/constant/Constable" (some 0) with
  accessFlags := 1537
  interfaces := #[]
  cf := some (fileOf pool10 1 #[] #[] 1537 3 #[] #[])
  fields := #[]
  methods := #[]
  instanceTypes := #[]
  staticTypes := #[]
  resolved := Array.replicate 11 none
  statics := none }

def pool11 : Array CpInfo := pool [(1, .class_ 2), (0, u "java/lang/constant/ConstantDesc"), (0, .class_ 4), (0, u "java/lang/Object")] 32

/-- java/lang/constant/ConstantDesc -/
def k11 : Class := { plain "java/lang/constant/ConstantDesc" (some 0) with
  accessFlags := 1537
  interfaces := #[]
  cf := some (fileOf pool11 1 #[] #[] 1537 3 #[] #[])
  fields := #[]
  methods := #[]
  instanceTypes := #[]
  staticTypes := #[]
  resolved := Array.replicate 37 none
  statics := none }

def pool12 : Array CpInfo := pool [(2, .class_ 4), (1, u "java/lang/Object"), (0, u "<init>"), (0, u "()V"), (3, .class_ 12), (1, u "java/lang/String"), (0, u "value"), (0, u "[B"), (2, u "coder"), (0, u "B"), (2, u "hash"), (0, u "I"), (2, u "hashIsZero"), (0, u "Z"), (13, u "COMPACT_STRINGS"), (534, .class_ 576), (0, u "java/lang/CharSequence"), (22, u "CASE_INSENSITIVE_ORDER"), (0, u "Ljava/util/Comparator;"), (500, u "serialPersistentFields"), (0, u "[Ljava/io/ObjectStreamField;"), (0, .class_ 1104), (0, u "java/lang/String$CaseInsensitiveComparator"), (1, .class_ 1107), (0, u "java/io/Serializable"), (0, .class_ 1109), (0, u "java/lang/Comparable"), (0, .class_ 1111), (0, u "java/lang/constant/Constable"), (0, .class_ 1113), (0, u "java/lang/constant/ConstantDesc"), (2, u "serialVersionUID"), (0, u "J"), (3, u "REPL"), (0, u "C"), (2, u "LATIN1"), (1, u "UTF16")] 323

def k12m0 : Method := { name := "<init>", desc := "()V", sig := { parameters := [], returnType := none }, accessFlags := 1, code := none }
/-- java/lang/String -/
def k12 : Class := { plain "java/lang/String" (some 0) with
  accessFlags := 49
  interfaces := #[7, 8, 9, 10, 11]
  cf := some (fileOf pool12 10 #[.nestMembers #[1103]] #[{ accessFlags := 1, nameIndex := 5, descriptorIndex := 6, attributes := #[] }] 49 2 #[1106, 1108, 575, 1110, 1112] #[{ accessFlags := 18, nameIndex := 13, descriptorIndex := 14, attributes := #[] }, { accessFlags := 18, nameIndex := 17, descriptorIndex := 18, attributes := #[] }, { accessFlags := 2, nameIndex := 21, descriptorIndex := 22, attributes := #[] }, { accessFlags := 2, nameIndex := 25, descriptorIndex := 26, attributes := #[] }, { accessFlags := 26, nameIndex := 1116, descriptorIndex := 1117, attributes := #[] }, { accessFlags := 24, nameIndex := 40, descriptorIndex := 26, attributes := #[] }, { accessFlags := 26, nameIndex := 1101, descriptorIndex := 1102, attributes := #[] }, { accessFlags := 26, nameIndex := 1121, descriptorIndex := 1122, attributes := #[] }, { accessFlags := 25, nameIndex := 599, descriptorIndex := 600, attributes := #[] }, { accessFlags := 24, nameIndex := 1125, descriptorIndex := 18, attributes := #[] }, { accessFlags := 24, nameIndex := 1127, descriptorIndex := 18, attributes := #[] }])
  fields := #[{ name := "value", type := (.array .byte), accessFlags := 18, slot := 0, constantValue := 0 }, { name := "coder", type := .byte, accessFlags := 18, slot := 1, constantValue := 0 }, { name := "hash", type := .int, accessFlags := 2, slot := 2, constantValue := 0 }, { name := "hashIsZero", type := .boolean, accessFlags := 2, slot := 3, constantValue := 0 }, { name := "serialVersionUID", type := .long, accessFlags := 26, slot := 0, constantValue := 0 }, { name := "COMPACT_STRINGS", type := .boolean, accessFlags := 24, slot := 1, constantValue := 0 }, { name := "serialPersistentFields", type := (.array (.object "java/io/ObjectStreamField")), accessFlags := 26, slot := 2, constantValue := 0 }, { name := "REPL", type := .char, accessFlags := 26, slot := 3, constantValue := 0 }, { name := "CASE_INSENSITIVE_ORDER", type := (.object "java/util/Comparator"), accessFlags := 25, slot := 4, constantValue := 0 }, { name := "LATIN1", type := .byte, accessFlags := 24, slot := 5, constantValue := 0 }, { name := "UTF16", type := .byte, accessFlags := 24, slot := 6, constantValue := 0 }]
  methods := #[k12m0]
  instanceTypes := #[(.array .byte), .byte, .int, .boolean]
  staticTypes := #[.long, .boolean, (.array (.object "java/io/ObjectStreamField")), .char, (.object "java/util/Comparator"), .byte, .byte]
  resolved := Array.replicate 1451 none
  statics := none }

def pool13 : Array CpInfo := pool [(1, u "java/lang/Cloneable"), (0, .class_ 1), (0, u "java/lang/Object"), (0, .class_ 3)] 3

/-- java/lang/Cloneable -/
def k13 : Class := { plain "java/lang/Cloneable" (some 0) with
  accessFlags := 1537
  interfaces := #[]
  cf := some (fileOf pool13 2 #[] #[] 1537 4 #[] #[])
  fields := #[]
  methods := #[]
  instanceTypes := #[]
  staticTypes := #[]
  resolved := Array.replicate 8 none
  statics := none }

/-- the primitive byte -/
def k14 : Class := { plain "byte" none with kind := .primitive 'B', accessFlags := 0x411 }
/-- [B -/
def k15 : Class := { plain "[B" (some 0) with kind := .array 14 .byte, interfaces := #[13, 7], accessFlags := 1041 }

/-- the primitive int -/
def k16 : Class := { plain "int" none with kind := .primitive 'I', accessFlags := 0x411 }
/-- [I -/
def k17 : Class := { plain "[I" (some 0) with kind := .array 16 .int, interfaces := #[13, 7], accessFlags := 1041 }

def heap : Heap := #[]
def classes : Array Class := #[k0, k1, k2, k3, k4, k5, k6, k7, k8, k9, k10, k11, k12, k13, k14, k15, k16, k17]
def interned : List (Array UInt16 × Addr) := []
def slotsUsed : Nat := 0
def theMethod : MethodId := ⟨1, 1⟩
def args0 : Array Value := #[.int 5, .int 9, .int 3, .int 2]
def aboutOver (below : List Frame) : State where
  vm := { classes := classes, interned := interned.toArray }
  heap := heap
  slotsUsed := slotsUsed
  threads := #[{ frames := .invoking theMethod args0 :: below }]
def below0 : List Frame := [.native { method := ⟨0, 0⟩, args := #[] }]
def about1 : State := aboutOver below0
def p0 : Program := .bare "" "" ""
def e0 : Env := launch0.env 0 0 0
theorem w_frames : about1.frames = Frame.invoking theMethod args0 :: below0 := rfl
set_option maxRecDepth 65536 in
theorem w_args : argsFit about1.vm theMethod args0 = true := by decide +kernel
set_option maxRecDepth 65536 in
theorem w_heap : heapFits about1 = true := by decide +kernel
set_option maxRecDepth 65536 in
theorem w_runnable : about1.curStatus? = some .runnable := by decide +kernel
set_option maxRecDepth 65536 in
theorem w_alone : about1.alone = true := by decide +kernel
set_option maxRecDepth 65536 in
theorem w_named : about1.methodNamed? x = some theMethod := by decide +kernel
set_option maxRecDepth 65536 in
theorem w_hears : about1.hears theMethod below0 = true := by decide +kernel
set_option maxRecDepth 65536 in
theorem w_ripe : about1.ripe theMethod args0 below0 = true := by decide +kernel
theorem w_running : about1.status = .running := rfl
set_option maxRecDepth 65536 in
theorem w_room : about1.hasRoom e0.platform room_1 = true :=
  launch0.hasRoom_least _ room_1 (by decide +kernel) (by decide +kernel) (by decide +kernel) (by decide +kernel) (by decide +kernel) (by decide +kernel)
theorem allAtoms_all (ts : List Jvm.Cond) (a : Array Jvm.Value) (st : Jvm.State) : (allAtoms ts).before a st = ts.all (fun c => c.before a st) := by
  induction ts with
  | nil => rfl
  | cons c t ih =>
    show (Jvm.Cond.and c (allAtoms t)).before a st = _
    rw [Jvm.Cond.before_and, ih, List.all_cons]
def words1 : List Jvm.Cond := Jvm.Cond.code x code maxLocals ret :: tables_1
/-- a 'code' word, met by the world's own term for the bytes: nothing is compared byte by byte -/
theorem code_word {y : MethodName} {bytes : ByteArray} {mx : Nat} {rt : Option FieldType} {a : Array Value} {s : State} {m : MethodId} {meth : Method} {c : Code} (h1 : s.methodNamed? y = some m) (h2 : s.vm.method? m = some meth) (h3 : meth.code = some c) (h4 : c.code = bytes)
    (h5 : (c.maxLocals == mx && c.exceptionTable.isEmpty && decide (c.maxStack ≤ mostOperands) && decide (meth.sig.returnType = rt) && !meth.locks && decide (parseMethodDescriptor y.desc = some meth.sig)) = true) : (Jvm.Cond.code y bytes mx rt).before a s = true := by
  simp only [Bool.and_eq_true, beq_iff_eq, Bool.not_eq_true', decide_eq_true_eq] at h5
  obtain ⟨⟨⟨⟨⟨g1, g2⟩, g3⟩, g4⟩, g5⟩, g6⟩ := h5
  simp [Cond.before, Cond.holds, Cond.value, h1, h2, h3, h4, g1, g2, g3, g4, g5, g6]
def isCode : Jvm.Cond → Bool
  | .code _ _ _ _ => true
  | _ => false
theorem all_split {L : List Jvm.Cond} {P : Jvm.Cond → Bool} (h1 : L.all (fun c => isCode c || P c) = true) (h2 : ∀ c ∈ L.filter isCode, P c = true) : L.all P = true := by
  refine List.all_eq_true.mpr fun c hc => ?_
  have h := List.all_eq_true.mp h1 c hc
  rcases Bool.eq_false_or_eq_true (isCode c) with hi | hi
  · exact h2 c (List.mem_filter.mpr ⟨hc, hi⟩)
  · simpa [hi] using h
set_option maxRecDepth 65536 in
theorem w_c0 : (Jvm.Cond.code x code maxLocals ret).before args0 about1 = true := code_word (m := ⟨1, 1⟩) (meth := k1m1) (c := k1c1) (by decide +kernel) rfl rfl rfl (by decide +kernel)
set_option maxRecDepth 65536 in
theorem w_c1 : (Jvm.Cond.code ({ cls := "java/lang/Math", name := "max", desc := "(II)I" } : Jvm.MethodName) jdk_29_method_65_code (2 : Nat) (Option.some Jvm.ClassFile.FieldType.int)).before args0 about1 = true := code_word (m := ⟨2, 1⟩) (meth := k2m1) (c := k2c1) (by decide +kernel) rfl rfl rfl (by decide +kernel)
set_option maxRecDepth 65536 in
theorem w_c2 : (Jvm.Cond.code ({ cls := "com/example/anchovy/anchovy/model/ScalarsetType", name := "<init>", desc := "(Ljava/lang/String;II)V" } : Jvm.MethodName) prog_100_method_1_code (4 : Nat) (Option.none : Option Jvm.ClassFile.FieldType)).before args0 about1 = true := code_word (m := ⟨6, 0⟩) (meth := k6m0) (c := k6c0) (by decide +kernel) rfl rfl rfl (by decide +kernel)
set_option maxRecDepth 65536 in
theorem w_c3 : (Jvm.Cond.code ({ cls := "com/example/anchovy/anchovy/model/IntervalType", name := "<init>", desc := "(Ljava/lang/String;II)V" } : Jvm.MethodName) prog_69_method_1_code (4 : Nat) (Option.none : Option Jvm.ClassFile.FieldType)).before args0 about1 = true := code_word (m := ⟨5, 0⟩) (meth := k5m0) (c := k5c0) (by decide +kernel) rfl rfl rfl (by decide +kernel)
set_option maxRecDepth 65536 in
theorem w_c4 : (Jvm.Cond.code ({ cls := "com/example/anchovy/anchovy/model/ScalarType", name := "<init>", desc := "(Ljava/lang/String;)V" } : Jvm.MethodName) prog_99_method_1_code (2 : Nat) (Option.none : Option Jvm.ClassFile.FieldType)).before args0 about1 = true := code_word (m := ⟨4, 0⟩) (meth := k4m0) (c := k4c0) (by decide +kernel) rfl rfl rfl (by decide +kernel)
set_option maxRecDepth 65536 in
theorem w_c5 : (Jvm.Cond.code ({ cls := "com/example/anchovy/anchovy/model/Type", name := "<init>", desc := "(Ljava/lang/String;)V" } : Jvm.MethodName) prog_107_method_1_code (2 : Nat) (Option.none : Option Jvm.ClassFile.FieldType)).before args0 about1 = true := code_word (m := ⟨3, 0⟩) (meth := k3m0) (c := k3c0) (by decide +kernel) rfl rfl rfl (by decide +kernel)
set_option maxRecDepth 65536 in
theorem w_c6 : (Jvm.Cond.code ({ cls := "java/lang/Object", name := "<init>", desc := "()V" } : Jvm.MethodName) object_method_1_code (1 : Nat) (Option.none : Option Jvm.ClassFile.FieldType)).before args0 about1 = true := code_word (m := ⟨0, 0⟩) (meth := k0m0) (c := k0c0) (by decide +kernel) rfl rfl rfl (by decide +kernel)
set_option maxRecDepth 65536 in
theorem w_c7 : (Jvm.Cond.code ({ cls := "com/example/anchovy/anchovy/model/IntervalType", name := "positionOf", desc := "(I)J" } : Jvm.MethodName) prog_69_method_6_code (2 : Nat) (Option.some Jvm.ClassFile.FieldType.long)).before args0 about1 = true := code_word (m := ⟨5, 3⟩) (meth := k5m3) (c := k5c3) (by decide +kernel) rfl rfl rfl (by decide +kernel)
set_option maxRecDepth 65536 in
theorem w_c8 : (Jvm.Cond.code ({ cls := "com/example/anchovy/anchovy/model/IntervalType", name := "valueAt", desc := "(J)I" } : Jvm.MethodName) prog_69_method_5_code (3 : Nat) (Option.some Jvm.ClassFile.FieldType.int)).before args0 about1 = true := code_word (m := ⟨5, 2⟩) (meth := k5m2) (c := k5c2) (by decide +kernel) rfl rfl rfl (by decide +kernel)
set_option maxRecDepth 65536 in
theorem w_c9 : (Jvm.Cond.code ({ cls := "com/example/anchovy/anchovy/model/IntervalType", name := "getSize", desc := "()J" } : Jvm.MethodName) prog_69_method_4_code (1 : Nat) (Option.some Jvm.ClassFile.FieldType.long)).before args0 about1 = true := code_word (m := ⟨5, 1⟩) (meth := k5m1) (c := k5c1) (by decide +kernel) rfl rfl rfl (by decide +kernel)
def codes1 : List Jvm.Cond := [Jvm.Cond.code x code maxLocals ret, Jvm.Cond.code ({ cls := "java/lang/Math", name := "max", desc := "(II)I" } : Jvm.MethodName) jdk_29_method_65_code (2 : Nat) (Option.some Jvm.ClassFile.FieldType.int), Jvm.Cond.code ({ cls := "com/example/anchovy/anchovy/model/ScalarsetType", name := "<init>", desc := "(Ljava/lang/String;II)V" } : Jvm.MethodName) prog_100_method_1_code (4 : Nat) (Option.none : Option Jvm.ClassFile.FieldType), Jvm.Cond.code ({ cls := "com/example/anchovy/anchovy/model/IntervalType", name := "<init>", desc := "(Ljava/lang/String;II)V" } : Jvm.MethodName) prog_69_method_1_code (4 : Nat) (Option.none : Option Jvm.ClassFile.FieldType), Jvm.Cond.code ({ cls := "com/example/anchovy/anchovy/model/ScalarType", name := "<init>", desc := "(Ljava/lang/String;)V" } : Jvm.MethodName) prog_99_method_1_code (2 : Nat) (Option.none : Option Jvm.ClassFile.FieldType), Jvm.Cond.code ({ cls := "com/example/anchovy/anchovy/model/Type", name := "<init>", desc := "(Ljava/lang/String;)V" } : Jvm.MethodName) prog_107_method_1_code (2 : Nat) (Option.none : Option Jvm.ClassFile.FieldType), Jvm.Cond.code ({ cls := "java/lang/Object", name := "<init>", desc := "()V" } : Jvm.MethodName) object_method_1_code (1 : Nat) (Option.none : Option Jvm.ClassFile.FieldType), Jvm.Cond.code ({ cls := "com/example/anchovy/anchovy/model/IntervalType", name := "positionOf", desc := "(I)J" } : Jvm.MethodName) prog_69_method_6_code (2 : Nat) (Option.some Jvm.ClassFile.FieldType.long), Jvm.Cond.code ({ cls := "com/example/anchovy/anchovy/model/IntervalType", name := "valueAt", desc := "(J)I" } : Jvm.MethodName) prog_69_method_5_code (3 : Nat) (Option.some Jvm.ClassFile.FieldType.int), Jvm.Cond.code ({ cls := "com/example/anchovy/anchovy/model/IntervalType", name := "getSize", desc := "()J" } : Jvm.MethodName) prog_69_method_4_code (1 : Nat) (Option.some Jvm.ClassFile.FieldType.long)]
set_option maxRecDepth 65536 in
theorem codes_eq : words1.filter isCode = codes1 := rfl
theorem w_codes : ∀ c ∈ words1.filter isCode, c.before args0 about1 = true := by
  rw [codes_eq]
  intro c hc
  simp only [codes1, List.mem_cons, List.not_mem_nil, or_false] at hc
  rcases hc with rfl | rfl | rfl | rfl | rfl | rfl | rfl | rfl | rfl | rfl
  · exact w_c0
  · exact w_c1
  · exact w_c2
  · exact w_c3
  · exact w_c4
  · exact w_c5
  · exact w_c6
  · exact w_c7
  · exact w_c8
  · exact w_c9
set_option maxRecDepth 65536 in
theorem w_t1 : (words1.take 24).all (fun c => isCode c || c.before args0 about1) = true := by decide +kernel
set_option maxRecDepth 65536 in
theorem w_t2 : ((words1.drop 24).take 24).all (fun c => isCode c || c.before args0 about1) = true := by decide +kernel
set_option maxRecDepth 65536 in
theorem w_t3 : ((words1.drop 24).drop 24).all (fun c => isCode c || c.before args0 about1) = true := by decide +kernel
theorem w_tables : (allAtoms (Jvm.Cond.code x code maxLocals ret :: tables_1)).before args0 about1 = true := by
  rw [allAtoms_all]
  show words1.all (fun c => c.before args0 about1) = true
  refine all_split ?_ w_codes
  rw [← List.take_append_drop 24 words1, List.all_append, w_t1, ← List.take_append_drop 24 (words1.drop 24), List.all_append, w_t2, w_t3]
  rfl
set_option maxRecDepth 65536 in
theorem w_case : (Jvm.Cond.and given_1 narrow_1).before args0 about1 = true := by decide +kernel
theorem w_applies : (headSpec (Jvm.Cond.code x code maxLocals ret :: tables_1) room_1).applies x e0.platform about1 = true :=
  (Spec.applies_iff w_frames).mpr ⟨w_running, w_runnable, w_alone, w_named, w_hears, w_ripe, w_room, w_tables⟩
theorem atStart : AtStart classFile x code maxLocals ret World_1 tables_1 room_1 Calls_1 rest_1 Pre_1 launch0 p0 e0 about1 theMethod args0 below0 :=
  ⟨lists_1, trivial, launch0.admits_env _ _ _, launch0.least_env, fairChoices_fair.cas, fairChoices_fair.clock, w_frames, w_args, w_heap, w_applies, trivial, trivial, w_case⟩
end start1
theorem witness_1 : WitnessClaimed_1 := ⟨start1.p0, start1.e0, start1.about1, start1.theMethod, start1.args0, start1.below0, start1.atStart⟩
end Jvm.Pilot.@@N@@
