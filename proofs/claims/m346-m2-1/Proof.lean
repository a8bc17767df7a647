import JvmDerived
import JvmDerived.Pilot.@@N@@Statement
import JvmDerived.Pilot.@@N@@Code
set_option linter.unusedVariables false
set_option linter.unusedSimpArgs false
namespace Jvm.Pilot.@@N@@
open Jvm Jvm.ClassFile Sem Op Lib Jvm.Free Jvm.Stand Jvm.LawKit Jvm.RoadKit Bundle Jvm.Pilot.@@N@@.Jvm.D

/-! own layer: a run that ends well, step by step (every lemma here is of this text) -/
section Own
variable {p : Program} {l : Launch} {e : Env} {R : Room} {s : State} {m : MethodId} {args : Array Value} {below : List Frame} {meth : Method} {c : Code} {T : State} {locs : List Loc} {cells slots : Nat} {P : State → Outcome → Prop} {pc pc' pc1 : Nat} {L L' : Array Slot} {S : List Value} {Z : State} {a0 : Array Value} {h : Heap}
/-- from this frame the run ends, and P holds of the end -/
def Ends (p : Program) (e : Env) (below : List Frame) (P : State → Outcome → Prop) (T : State) (m : MethodId) (pc : Nat) (L : Array Slot) (S : List Value) : Prop :=
  ∃ t o, Steps p.tables e below (T.setTop (mkF m pc L S)) t ∧ t.status = .running ∧ Ended t below o ∧ P t o
theorem Ends.of {T' : State} {S' : List Value} (k : Ends p e below P T' m pc' L' S') (h : ∀ target, Steps p.tables e below (T'.setTop (mkF m pc' L' S')) target → Steps p.tables e below (T.setTop (mkF m pc L S)) target) : Ends p e below P T m pc L S := by
  obtain ⟨t, o, h1, h2⟩ := k; exact ⟨t, o, h _ h1, h2⟩
theorem eILoadN (X : Stand p l e R s m args below meth c T locs cells slots) (hx : p.tables.exec = Jvm.exec) {k : Fin 4} {v : Int32} (hd : decode c.code pc = .ok (.iload_n k, 1)) (hl : L[k.val]? = some (.val (.int v))) (hp : pc + 1 = pc') (kk : Ends p e below P T m pc' L (.int v :: S)) : Ends p e below P T m pc L S := by
  subst hp; exact kk.of fun t h => XS.iloadN X.here hx rfl hd hl h
theorem eILoad (X : Stand p l e R s m args below meth c T locs cells slots) (hx : p.tables.exec = Jvm.exec) {k : Nat} {v : Int32} (hd : decode c.code pc = .ok (.iload k, 2)) (hl : L[k]? = some (.val (.int v))) (hp : pc + 2 = pc') (kk : Ends p e below P T m pc' L (.int v :: S)) : Ends p e below P T m pc L S := by
  subst hp; exact kk.of fun t h => XS.iload X.here hx rfl hd hl h
theorem eLLoadN (X : Stand p l e R s m args below meth c T locs cells slots) (hx : p.tables.exec = Jvm.exec) {k : Fin 4} {v : Int64} (hd : decode c.code pc = .ok (.lload_n k, 1)) (hl : L[k.val]? = some (.val (.long v))) (hp : pc + 1 = pc') (kk : Ends p e below P T m pc' L (.long v :: S)) : Ends p e below P T m pc L S := by
  subst hp; exact kk.of fun t h => XT.lloadN X.here hx rfl hd hl h
theorem eLLoad (X : Stand p l e R s m args below meth c T locs cells slots) (hx : p.tables.exec = Jvm.exec) {k : Nat} {v : Int64} (hd : decode c.code pc = .ok (.lload k, 2)) (hl : L[k]? = some (.val (.long v))) (hp : pc + 2 = pc') (kk : Ends p e below P T m pc' L (.long v :: S)) : Ends p e below P T m pc L S := by
  subst hp; exact kk.of fun t h => XT.lload X.here hx rfl hd hl h
theorem eALoadN (X : Stand p l e R s m args below meth c T locs cells slots) (hx : p.tables.exec = Jvm.exec) {k : Fin 4} {v : Value} (hd : decode c.code pc = .ok (.aload_n k, 1)) (hl : L[k.val]? = some (.val v)) (hv : v.isRef = true) (hp : pc + 1 = pc') (kk : Ends p e below P T m pc' L (v :: S)) : Ends p e below P T m pc L S := by
  subst hp; exact kk.of fun t h => XS.aloadN X.here hx rfl hd hl hv h
theorem eALoad (X : Stand p l e R s m args below meth c T locs cells slots) (hx : p.tables.exec = Jvm.exec) {k : Nat} {v : Value} (hd : decode c.code pc = .ok (.aload k, 2)) (hl : L[k]? = some (.val v)) (hv : v.isRef = true) (hp : pc + 2 = pc') (kk : Ends p e below P T m pc' L (v :: S)) : Ends p e below P T m pc L S := by
  subst hp; exact kk.of fun t h => XS.aload X.here hx rfl hd hl hv h
theorem eIStoreN (X : Stand p l e R s m args below meth c T locs cells slots) (hx : p.tables.exec = Jvm.exec) {k : Fin 4} {v : Int32} (hd : decode c.code pc = .ok (.istore_n k, 1)) (hl : storeLocals L k.val (.int v) = some L') (hp : pc + 1 = pc') (kk : Ends p e below P T m pc' L' S) : Ends p e below P T m pc L (.int v :: S) := by
  subst hp; exact kk.of fun t h => XS.istoreN X.here hx rfl hd rfl hl h
theorem eIStore (X : Stand p l e R s m args below meth c T locs cells slots) (hx : p.tables.exec = Jvm.exec) {k : Nat} {v : Int32} (hd : decode c.code pc = .ok (.istore k, 2)) (hl : storeLocals L k (.int v) = some L') (hp : pc + 2 = pc') (kk : Ends p e below P T m pc' L' S) : Ends p e below P T m pc L (.int v :: S) := by
  subst hp; exact kk.of fun t h => XS.istore X.here hx rfl hd rfl hl h
theorem eLStoreN (X : Stand p l e R s m args below meth c T locs cells slots) (hx : p.tables.exec = Jvm.exec) {k : Fin 4} {v : Int64} (hd : decode c.code pc = .ok (.lstore_n k, 1)) (hl : storeLocals L k.val (.long v) = some L') (hp : pc + 1 = pc') (kk : Ends p e below P T m pc' L' S) : Ends p e below P T m pc L (.long v :: S) := by
  subst hp; exact kk.of fun t h => XT.lstoreN X.here hx rfl hd rfl hl h
theorem eLStore (X : Stand p l e R s m args below meth c T locs cells slots) (hx : p.tables.exec = Jvm.exec) {k : Nat} {v : Int64} (hd : decode c.code pc = .ok (.lstore k, 2)) (hl : storeLocals L k (.long v) = some L') (hp : pc + 2 = pc') (kk : Ends p e below P T m pc' L' S) : Ends p e below P T m pc L (.long v :: S) := by
  subst hp; exact kk.of fun t h => XT.lstore X.here hx rfl hd rfl hl h
theorem eAStoreN (X : Stand p l e R s m args below meth c T locs cells slots) (hx : p.tables.exec = Jvm.exec) {k : Fin 4} {v : Value} (hd : decode c.code pc = .ok (.astore_n k, 1)) (hv : v.isRef = true) (hl : storeLocals L k.val v = some L') (hp : pc + 1 = pc') (kk : Ends p e below P T m pc' L' S) : Ends p e below P T m pc L (v :: S) := by
  subst hp; exact kk.of fun t h => XS.astoreN X.here hx rfl hd rfl hv hl h
theorem eAStore (X : Stand p l e R s m args below meth c T locs cells slots) (hx : p.tables.exec = Jvm.exec) {k : Nat} {v : Value} (hd : decode c.code pc = .ok (.astore k, 2)) (hv : v.isRef = true) (hl : storeLocals L k v = some L') (hp : pc + 2 = pc') (kk : Ends p e below P T m pc' L' S) : Ends p e below P T m pc L (v :: S) := by
  subst hp; exact kk.of fun t h => XS.astore X.here hx rfl hd rfl hv hl h
theorem eIConst (X : Stand p l e R s m args below meth c T locs cells slots) (hx : p.tables.exec = Jvm.exec) {i : Int} (v : Int32) (hd : decode c.code pc = .ok (.iconst i, 1)) (hv : Int32.ofInt i = v) (hp : pc + 1 = pc') (kk : Ends p e below P T m pc' L (.int v :: S)) : Ends p e below P T m pc L S := by
  subst hp hv; exact kk.of fun t h => XS.iconst X.here hx rfl hd h
theorem eBipush (X : Stand p l e R s m args below meth c T locs cells slots) (hx : p.tables.exec = Jvm.exec) {i : Int} (v : Int32) (hd : decode c.code pc = .ok (.bipush i, 2)) (hv : (Int8.ofInt i).toInt32 = v) (hp : pc + 2 = pc') (kk : Ends p e below P T m pc' L (.int v :: S)) : Ends p e below P T m pc L S := by
  subst hp hv; exact kk.of fun t h => XS.bipush X.here hx rfl hd h
theorem eSipush (X : Stand p l e R s m args below meth c T locs cells slots) (hx : p.tables.exec = Jvm.exec) {i : Int} (v : Int32) (hd : decode c.code pc = .ok (.sipush i, 3)) (hv : (Int16.ofInt i).toInt32 = v) (hp : pc + 3 = pc') (kk : Ends p e below P T m pc' L (.int v :: S)) : Ends p e below P T m pc L S := by
  subst hp hv; exact kk.of fun t h => XS.sipush X.here hx rfl hd h
theorem eLConst (X : Stand p l e R s m args below meth c T locs cells slots) (hx : p.tables.exec = Jvm.exec) {k : Fin 2} (v : Int64) (hd : decode c.code pc = .ok (.lconst k, 1)) (hv : Int64.ofNat k = v) (hp : pc + 1 = pc') (kk : Ends p e below P T m pc' L (.long v :: S)) : Ends p e below P T m pc L S := by
  subst hp; exact kk.of fun t h => XT.lconstV X.here hx rfl v hd hv h
theorem eNull (X : Stand p l e R s m args below meth c T locs cells slots) (hx : p.tables.exec = Jvm.exec) (hd : decode c.code pc = .ok (.aconst_null, 1)) (hp : pc + 1 = pc') (kk : Ends p e below P T m pc' L (.null :: S)) : Ends p e below P T m pc L S := by
  subst hp; exact kk.of fun t h => XS.aconstNull X.here hx rfl hd h
theorem eLdcI (X : Stand p l e R s m args below meth c T locs cells slots) (hx : p.tables.exec = Jvm.exec) (hZ : Z.Warmed39 s.vm) {own : String} {index : Nat} {v : Int32} (hown : s.vm.findClass own = some m.cls) (w : (Cond.constant own index v).before a0 Z = true) (hd : decode c.code pc = .ok (.ldc index, 2)) (hp : pc + 2 = pc') (kk : Ends p e below P T m pc' L (.int v :: S)) : Ends p e below P T m pc L S := by
  subst hp; exact kk.of fun t h => X.ldcI hx hown (mvT hZ w) rfl hd h
theorem eLdcWI (X : Stand p l e R s m args below meth c T locs cells slots) (hx : p.tables.exec = Jvm.exec) (hZ : Z.Warmed39 s.vm) {own : String} {index : Nat} {v : Int32} (hown : s.vm.findClass own = some m.cls) (w : (Cond.constant own index v).before a0 Z = true) (hd : decode c.code pc = .ok (.ldc_w index, 3)) (hp : pc + 3 = pc') (kk : Ends p e below P T m pc' L (.int v :: S)) : Ends p e below P T m pc L S := by
  subst hp; exact kk.of fun t h => X.ldcWI hx hown (mvT hZ w) rfl hd h
theorem eLdc2J (X : Stand p l e R s m args below meth c T locs cells slots) (hx : p.tables.exec = Jvm.exec) (hZ : Z.Warmed39 s.vm) {own : String} {index : Nat} {v : Int64} (hown : s.vm.findClass own = some m.cls) (w : (Cond.constantLong own index v).before a0 Z = true) (hd : decode c.code pc = .ok (.ldc2_w index, 3)) (hp : pc + 3 = pc') (kk : Ends p e below P T m pc' L (.long v :: S)) : Ends p e below P T m pc L S := by
  subst hp; exact kk.of fun t h => X.ldc2J hx hown (mvT hZ w) rfl hd h
theorem eIAdd (X : Stand p l e R s m args below meth c T locs cells slots) (hx : p.tables.exec = Jvm.exec) {x y : Int32} (hd : decode c.code pc = .ok (.iadd, 1)) (hp : pc + 1 = pc') (kk : Ends p e below P T m pc' L (.int (x + y) :: S)) : Ends p e below P T m pc L (.int y :: .int x :: S) := by
  subst hp; exact kk.of fun t h => XS.iadd X.here hx rfl hd rfl h
theorem eISub (X : Stand p l e R s m args below meth c T locs cells slots) (hx : p.tables.exec = Jvm.exec) {x y : Int32} (hd : decode c.code pc = .ok (.isub, 1)) (hp : pc + 1 = pc') (kk : Ends p e below P T m pc' L (.int (x - y) :: S)) : Ends p e below P T m pc L (.int y :: .int x :: S) := by
  subst hp; exact kk.of fun t h => XS.isub X.here hx rfl hd rfl h
theorem eIMul (X : Stand p l e R s m args below meth c T locs cells slots) (hx : p.tables.exec = Jvm.exec) {x y : Int32} (hd : decode c.code pc = .ok (.imul, 1)) (hp : pc + 1 = pc') (kk : Ends p e below P T m pc' L (.int (x * y) :: S)) : Ends p e below P T m pc L (.int y :: .int x :: S) := by
  subst hp; exact kk.of fun t h => XS.imul X.here hx rfl hd rfl h
theorem eIAnd (X : Stand p l e R s m args below meth c T locs cells slots) (hx : p.tables.exec = Jvm.exec) {x y : Int32} (hd : decode c.code pc = .ok (.iand, 1)) (hp : pc + 1 = pc') (kk : Ends p e below P T m pc' L (.int (x &&& y) :: S)) : Ends p e below P T m pc L (.int y :: .int x :: S) := by
  subst hp; exact kk.of fun t h => XS.iand X.here hx rfl hd rfl h
theorem eIDiv (X : Stand p l e R s m args below meth c T locs cells slots) (hx : p.tables.exec = Jvm.exec) {x y : Int32} (hd : decode c.code pc = .ok (.idiv, 1)) (hy : y ≠ 0) (hp : pc + 1 = pc') (kk : Ends p e below P T m pc' L (.int (x / y) :: S)) : Ends p e below P T m pc L (.int y :: .int x :: S) := by
  subst hp; exact kk.of fun t h => XS.idiv X.here hx rfl hd rfl hy h
theorem eIRem (X : Stand p l e R s m args below meth c T locs cells slots) (hx : p.tables.exec = Jvm.exec) {x y : Int32} (hd : decode c.code pc = .ok (.irem, 1)) (hy : y ≠ 0) (hp : pc + 1 = pc') (kk : Ends p e below P T m pc' L (.int (x % y) :: S)) : Ends p e below P T m pc L (.int y :: .int x :: S) := by
  subst hp; exact kk.of fun t h => iremM X hx rfl hd rfl hy h
theorem eIShr (X : Stand p l e R s m args below meth c T locs cells slots) (hx : p.tables.exec = Jvm.exec) {x y : Int32} (hd : decode c.code pc = .ok (.ishr, 1)) (hp : pc + 1 = pc') (kk : Ends p e below P T m pc' L (.int (x >>> (y &&& 31)) :: S)) : Ends p e below P T m pc L (.int y :: .int x :: S) := by
  subst hp; exact kk.of fun t h => XS.ishr X.here hx rfl hd rfl h
theorem eIUshr (X : Stand p l e R s m args below meth c T locs cells slots) (hx : p.tables.exec = Jvm.exec) {x y : Int32} (hd : decode c.code pc = .ok (.iushr, 1)) (hp : pc + 1 = pc') (kk : Ends p e below P T m pc' L (.int ((x.toUInt32 >>> (y &&& 31).toUInt32).toInt32) :: S)) : Ends p e below P T m pc L (.int y :: .int x :: S) := by
  subst hp; exact kk.of fun t h => XS.iushr X.here hx rfl hd rfl h
theorem eI2C (X : Stand p l e R s m args below meth c T locs cells slots) (hx : p.tables.exec = Jvm.exec) {x : Int32} (hd : decode c.code pc = .ok (.i2c, 1)) (hp : pc + 1 = pc') (kk : Ends p e below P T m pc' L (.int (x.toUInt32.toUInt16.toUInt32.toInt32) :: S)) : Ends p e below P T m pc L (.int x :: S) := by
  subst hp; exact kk.of fun t h => XS.i2c X.here hx rfl hd rfl h
theorem eI2B (X : Stand p l e R s m args below meth c T locs cells slots) (hx : p.tables.exec = Jvm.exec) {x : Int32} (hd : decode c.code pc = .ok (.i2b, 1)) (hp : pc + 1 = pc') (kk : Ends p e below P T m pc' L (.int (x.toInt8.toInt32) :: S)) : Ends p e below P T m pc L (.int x :: S) := by
  subst hp; exact kk.of fun t h => XS.i2b X.here hx rfl hd rfl h
theorem eI2L (X : Stand p l e R s m args below meth c T locs cells slots) (hx : p.tables.exec = Jvm.exec) {x : Int32} (hd : decode c.code pc = .ok (.i2l, 1)) (hp : pc + 1 = pc') (kk : Ends p e below P T m pc' L (.long (x.toInt64) :: S)) : Ends p e below P T m pc L (.int x :: S) := by
  subst hp; exact kk.of fun t h => XS.i2l X.here hx rfl hd rfl h
theorem eLAdd (X : Stand p l e R s m args below meth c T locs cells slots) (hx : p.tables.exec = Jvm.exec) {x y : Int64} (hd : decode c.code pc = .ok (.ladd, 1)) (hp : pc + 1 = pc') (kk : Ends p e below P T m pc' L (.long (x + y) :: S)) : Ends p e below P T m pc L (.long y :: .long x :: S) := by
  subst hp; exact kk.of fun t h => XS.ladd X.here hx rfl hd rfl h
theorem eLSub (X : Stand p l e R s m args below meth c T locs cells slots) (hx : p.tables.exec = Jvm.exec) {x y : Int64} (hd : decode c.code pc = .ok (.lsub, 1)) (hp : pc + 1 = pc') (kk : Ends p e below P T m pc' L (.long (x - y) :: S)) : Ends p e below P T m pc L (.long y :: .long x :: S) := by
  subst hp; exact kk.of fun t h => XS.lsub X.here hx rfl hd rfl h
theorem eLAnd (X : Stand p l e R s m args below meth c T locs cells slots) (hx : p.tables.exec = Jvm.exec) {x y : Int64} (hd : decode c.code pc = .ok (.land, 1)) (hp : pc + 1 = pc') (kk : Ends p e below P T m pc' L (.long (x &&& y) :: S)) : Ends p e below P T m pc L (.long y :: .long x :: S) := by
  subst hp; exact kk.of fun t h => XS.land X.here hx rfl hd rfl h
theorem eLOr (X : Stand p l e R s m args below meth c T locs cells slots) (hx : p.tables.exec = Jvm.exec) {x y : Int64} (hd : decode c.code pc = .ok (.lor, 1)) (hp : pc + 1 = pc') (kk : Ends p e below P T m pc' L (.long (x ||| y) :: S)) : Ends p e below P T m pc L (.long y :: .long x :: S) := by
  subst hp; exact kk.of fun t h => XS.lor X.here hx rfl hd rfl h
theorem eLShl (X : Stand p l e R s m args below meth c T locs cells slots) (hx : p.tables.exec = Jvm.exec) {x : Int64} {y : Int32} (hd : decode c.code pc = .ok (.lshl, 1)) (hp : pc + 1 = pc') (kk : Ends p e below P T m pc' L (.long (x <<< (y &&& 0x3f).toInt64) :: S)) : Ends p e below P T m pc L (.int y :: .long x :: S) := by
  subst hp; exact kk.of fun t h => XS.lshl X.here hx rfl hd rfl h
theorem eLShr (X : Stand p l e R s m args below meth c T locs cells slots) (hx : p.tables.exec = Jvm.exec) {x : Int64} {y : Int32} (hd : decode c.code pc = .ok (.lshr, 1)) (hp : pc + 1 = pc') (kk : Ends p e below P T m pc' L (.long (x >>> (y &&& 0x3f).toInt64) :: S)) : Ends p e below P T m pc L (.int y :: .long x :: S) := by
  subst hp; exact kk.of fun t h => XS.lshr X.here hx rfl hd rfl h
theorem eLDiv (X : Stand p l e R s m args below meth c T locs cells slots) (hx : p.tables.exec = Jvm.exec) {x y : Int64} (hd : decode c.code pc = .ok (.ldiv, 1)) (hy : y ≠ 0) (hp : pc + 1 = pc') (kk : Ends p e below P T m pc' L (.long (x / y) :: S)) : Ends p e below P T m pc L (.long y :: .long x :: S) := by
  subst hp; exact kk.of fun t h => XT.ldiv X.here hx rfl hd rfl hy h
theorem eLRem (X : Stand p l e R s m args below meth c T locs cells slots) (hx : p.tables.exec = Jvm.exec) {x y : Int64} (hd : decode c.code pc = .ok (.lrem, 1)) (hy : y ≠ 0) (hp : pc + 1 = pc') (kk : Ends p e below P T m pc' L (.long (x % y) :: S)) : Ends p e below P T m pc L (.long y :: .long x :: S) := by
  subst hp; exact kk.of fun t h => XT.lrem X.here hx rfl hd rfl hy (by first | exact h | (rw [lrem_mod]; exact h))
theorem eLNeg (X : Stand p l e R s m args below meth c T locs cells slots) (hx : p.tables.exec = Jvm.exec) {x : Int64} (hd : decode c.code pc = .ok (.lneg, 1)) (hp : pc + 1 = pc') (kk : Ends p e below P T m pc' L (.long (-x) :: S)) : Ends p e below P T m pc L (.long x :: S) := by
  subst hp; exact kk.of fun t h => XT.lneg X.here hx rfl hd rfl h
theorem eLCmp (X : Stand p l e R s m args below meth c T locs cells slots) (hx : p.tables.exec = Jvm.exec) {x y : Int64} (hd : decode c.code pc = .ok (.lcmp, 1)) (hp : pc + 1 = pc') (kk : Ends p e below P T m pc' L (.int (XT.cmpL x y) :: S)) : Ends p e below P T m pc L (.long y :: .long x :: S) := by
  subst hp; exact kk.of fun t h => XT.lcmp X.here hx rfl hd rfl h
theorem eDup (X : Stand p l e R s m args below meth c T locs cells slots) (hx : p.tables.exec = Jvm.exec) {v : Value} (hd : decode c.code pc = .ok (.dup, 1)) (hc : v.category = 1) (hp : pc + 1 = pc') (kk : Ends p e below P T m pc' L (v :: v :: S)) : Ends p e below P T m pc L (v :: S) := by
  subst hp; exact kk.of fun t h => XS.dup X.here hx rfl hd rfl hc h
theorem ePop (X : Stand p l e R s m args below meth c T locs cells slots) (hx : p.tables.exec = Jvm.exec) {v : Value} (hd : decode c.code pc = .ok (.pop, 1)) (hc : v.category = 1) (hp : pc + 1 = pc') (kk : Ends p e below P T m pc' L S) : Ends p e below P T m pc L (v :: S) := by
  subst hp; exact kk.of fun t h => XT.pop X.here hx rfl hd rfl hc h
theorem eDupX1 (X : Stand p l e R s m args below meth c T locs cells slots) (hx : p.tables.exec = Jvm.exec) {v w : Value} (hd : decode c.code pc = .ok (.dup_x1, 1)) (hc : v.category = 1) (hc' : w.category = 1) (hp : pc + 1 = pc') (kk : Ends p e below P T m pc' L (v :: w :: v :: S)) : Ends p e below P T m pc L (v :: w :: S) := by
  subst hp; exact kk.of fun t h => XT.dupX1 X.here hx rfl hd rfl hc hc' h
theorem eDup2 (X : Stand p l e R s m args below meth c T locs cells slots) (hx : p.tables.exec = Jvm.exec) {v w : Value} (hd : decode c.code pc = .ok (.dup2, 1)) (hc : v.category = 1) (hc' : w.category = 1) (hp : pc + 1 = pc') (kk : Ends p e below P T m pc' L (v :: w :: v :: w :: S)) : Ends p e below P T m pc L (v :: w :: S) := by
  subst hp; exact kk.of fun t h => XT.dup2 X.here hx rfl hd rfl hc hc' h
theorem eDupX2 (X : Stand p l e R s m args below meth c T locs cells slots) (hx : p.tables.exec = Jvm.exec) {v w u : Value} (hd : decode c.code pc = .ok (.dup_x2, 1)) (hc : v.category = 1) (hc' : w.category = 1) (hc2 : u.category = 1) (hp : pc + 1 = pc') (kk : Ends p e below P T m pc' L (v :: w :: u :: v :: S)) : Ends p e below P T m pc L (v :: w :: u :: S) := by
  subst hp
  refine kk.of fun t h => ?_
  jvm_step X.here [X.here.top, hx, hd, hc, hc', hc2]
  exact h
theorem eIInc (X : Stand p l e R s m args below meth c T locs cells slots) (hx : p.tables.exec = Jvm.exec) {k : Nat} {cst : Int} {x : Int32} (v : Int32) (hd : decode c.code pc = .ok (.iinc k cst, 3)) (hv : Int32.ofInt cst = v) (hl : L[k]? = some (.val (.int x))) (hl' : storeLocals L k (.int (x + v)) = some L') (hp : pc + 3 = pc') (kk : Ends p e below P T m pc' L' S) : Ends p e below P T m pc L S := by
  subst hp hv; exact kk.of fun t h => XS.iinc X.here hx rfl hd hl hl' h
theorem eGoto (X : Stand p l e R s m args below meth c T locs cells slots) (hx : p.tables.exec = Jvm.exec) {o : Int} (hd : decode c.code pc = .ok (.goto o, 3)) (ho : 0 ≤ (pc : Int) + o) (hp : ((pc : Int) + o).toNat = pc') (kk : Ends p e below P T m pc' L S) : Ends p e below P T m pc L S :=
  kk.of fun t h => XS.goto X.here hx rfl rfl hd ho hp h
theorem eIfY (X : Stand p l e R s m args below meth c T locs cells slots) (hx : p.tables.exec = Jvm.exec) {cd : ClassFile.Cond} {x : Int32} {o : Int} (hd : decode c.code pc = .ok (.ifCond cd o, 3)) (hc : ifCond.holds cd x = true) (ho : 0 ≤ (pc : Int) + o) (hp : ((pc : Int) + o).toNat = pc') (kk : Ends p e below P T m pc' L S) : Ends p e below P T m pc L (.int x :: S) :=
  kk.of fun t h => XS.ifYes X.here hx rfl rfl hd rfl hc ho hp h
theorem eIfN (X : Stand p l e R s m args below meth c T locs cells slots) (hx : p.tables.exec = Jvm.exec) {cd : ClassFile.Cond} {x : Int32} {o : Int} (hd : decode c.code pc = .ok (.ifCond cd o, 3)) (hc : ifCond.holds cd x = false) (hp : pc + 3 = pc') (kk : Ends p e below P T m pc' L S) : Ends p e below P T m pc L (.int x :: S) := by
  subst hp; exact kk.of fun t h => XS.ifNo X.here hx rfl hd rfl hc h
theorem eIcmpY (X : Stand p l e R s m args below meth c T locs cells slots) (hx : p.tables.exec = Jvm.exec) {cd : ClassFile.Cond} {x y : Int32} {o : Int} (hd : decode c.code pc = .ok (.if_icmp cd o, 3)) (hc : if_icmp.holds cd x y = true) (ho : 0 ≤ (pc : Int) + o) (hp : ((pc : Int) + o).toNat = pc') (kk : Ends p e below P T m pc' L S) : Ends p e below P T m pc L (.int y :: .int x :: S) :=
  kk.of fun t h => XS.icmpYes X.here hx rfl rfl hd rfl hc ho hp h
theorem eIcmpN (X : Stand p l e R s m args below meth c T locs cells slots) (hx : p.tables.exec = Jvm.exec) {cd : ClassFile.Cond} {x y : Int32} {o : Int} (hd : decode c.code pc = .ok (.if_icmp cd o, 3)) (hc : if_icmp.holds cd x y = false) (hp : pc + 3 = pc') (kk : Ends p e below P T m pc' L S) : Ends p e below P T m pc L (.int y :: .int x :: S) := by
  subst hp; exact kk.of fun t h => XS.icmpNo X.here hx rfl hd rfl hc h
/-! steps that read or write the heap -/
theorem eGetF (X : Stand p l e R s m args below meth c T locs cells slots) (hx : p.tables.exec = Jvm.exec) (hZ : Z.Warmed39 s.vm) {own R0 O n d : String} {index : Nat} (hown : s.vm.findClass own = some m.cls) (w : (Cond.fieldLink own index R0 n d).before a0 Z = true) (via : Via Z R0 O n d) (eT : T.heap = h) {a : Addr} {v : Value} (F : Fld Z h a O n d v) (hd : decode c.code pc = .ok (.getfield index, 3)) (hp : pc + 3 = pc')
    (kk : ∀ T', Stand p l e R s m args below meth c T' locs cells slots → T'.heap = h → Ends p e below P T' m pc' L (v :: S)) : Ends p e below P T m pc L (.ref a :: S) := by
  subst hp
  obtain ⟨T', X', e', st⟩ := getF X hx hZ hown (host := "") (Or.inl w) via eT F (g := mkF m pc L (.ref a :: S)) rfl rfl hd
  exact (kk T' X' e').of st
theorem ePutF (X : Stand p l e R s m args below meth c T locs cells slots) (hx : p.tables.exec = Jvm.exec) (hZ : Z.Warmed39 s.vm) {own R0 O n d C : String} {index kk0 : Nat} {ty : FieldType} (hown : s.vm.findClass own = some m.cls) (w : (Cond.fieldLink own index R0 n d).before a0 Z = true) (via : Via Z R0 O n d) (eT : T.heap = h) {a : Addr} {v old : Value} (F : Fld Z h a O n d old) (E : Exa Z h a C) (La : (Cond.lays C O n d).before a0 Z = true ∨ ((Cond.laysFinal C O n d).before a0 Z = true ∧ own = O ∧ meth.name = "<init>")) (wi : (Cond.instantiable C kk0).before a0 Z = true) (hty : parseFieldDescriptor d = some ty) (hn : narrow ty v = v) (hf : fits ty v = true) (hd : decode c.code pc = .ok (.putfield index, 3)) (hp : pc + 3 = pc')
    (kk : ∀ T' h', Stand p l e R s m args below meth c T' (locs ++ [⟨a, Jvm.RoadKit.slotOf Z O n d⟩]) cells slots → T'.heap = h' → Wr h h' a (Jvm.RoadKit.slotOf Z O n d) v → Ends p e below P T' m pc' L S) : Ends p e below P T m pc L (v :: .ref a :: S) := by
  subst hp
  obtain ⟨T', h', X', e', W, st⟩ := putF X hx hZ hown (host := "") (Or.inl w) via eT F E La wi hty hn hf (g := mkF m pc L (v :: .ref a :: S)) rfl rfl hd
  exact (kk T' h' X' e' W).of st
theorem eNewO (X : Stand p l e R s m args below meth c T locs cells slots) (hx : p.tables.exec = Jvm.exec) (hZ : Z.Warmed39 s.vm) {own C : String} {index n : Nat} (hown : s.vm.findClass own = some m.cls) (w : (Cond.classLink own index C).before a0 Z = true) (wi : (Cond.instantiable C n).before a0 Z = true) (wz : (Cond.initialized C).before a0 Z = true) (eT : T.heap = h) (hd : decode c.code pc = .ok (.new index, 3)) (hc : cells + 1 ≤ R.cells) (hl : slots + n ≤ R.slots) (hp : pc + 3 = pc')
    (kk : ∀ T' h' a, a = h.size → Stand p l e R s m args below meth c T' locs (cells + 1) (slots + n) → T'.heap = h' → Ext h h' → Exa Z h' a C → (∀ {O nm d : String} {ty : FieldType}, Laid Z a0 C O nm d → parseFieldDescriptor d = some ty → Fld Z h' a O nm d (defaultValue ty)) → Ends p e below P T' m pc' L (.ref a :: S)) : Ends p e below P T m pc L S := by
  subst hp
  obtain ⟨T', h', X', e', E, A, D, -, st⟩ := newO X hx hZ hown w wi wz eT (g := mkF m pc L S) rfl hd hc hl
  exact (kk T' h' _ rfl X' e' E A D).of st
theorem eInitO (X : Stand p l e R s m args below meth c T locs cells slots) (hx : p.tables.exec = Jvm.exec) (hZ : Z.Warmed39 s.vm) {own : String} {idx : Nat} (hown : s.vm.findClass own = some m.cls) (w1 : (Cond.methodLink own idx Lib.objectInit).before a0 Z = true) (w2 : (Cond.instanceMethod Lib.objectInit).before a0 Z = true) (w3 : (Cond.code Lib.objectInit object_method_1_code 1 none).before a0 Z = true) (eT : T.heap = h) (hsize : L.size = c.maxLocals) {a : Addr} (hd : decode c.code pc = .ok (.invokespecial idx, 3)) (hf : 1 ≤ R.frames) (W : Nat) (hW : 2 * 0 + (S.map fun v => v.category).sum ≤ W) (hl : W + 12 ≤ R.locals) (hp : pc + 3 = pc')
    (kk : ∀ T', Stand p l e R s m args below meth c T' locs cells slots → T'.heap = h → Ends p e below P T' m pc' L S) : Ends p e below P T m pc L (.ref a :: S) := by
  subst hp
  obtain ⟨T', X', e', st⟩ := initO X hx hZ hown w1 w2 w3 eT (g := mkF m pc L (.ref a :: S)) rfl hsize rfl hd hf hW hl
  exact (kk T' X' e').of st
theorem eGetS (X : Stand p l e R s m args below meth c T locs cells slots) (hx : p.tables.exec = Jvm.exec) (hZ : Z.Warmed39 s.vm) {own O n d : String} {index : Nat} (hown : s.vm.findClass own = some m.cls) (w : (Cond.fieldLink own index O n d).before a0 Z = true) (eT : T.heap = h) {v : Value} (F : Sta Z h O n d v) (hd : decode c.code pc = .ok (.getstatic index, 3)) (hp : pc + 3 = pc')
    (kk : ∀ T', Stand p l e R s m args below meth c T' locs cells slots → T'.heap = h → Ends p e below P T' m pc' L (v :: S)) : Ends p e below P T m pc L S := by
  subst hp
  obtain ⟨T', X', e', st⟩ := getS X hx hZ (host := "") hown w Via.refl eT F (g := mkF m pc L S) rfl hd
  exact (kk T' X' e').of st
theorem Sta.keep1 {h' : Heap} {a : Addr} {C C' n d : String} {v : Value} (F : Sta Z h C n d v) (K : Keep h h' [a]) (E : Exa Z h a C') : Sta Z h' C n d v := by
  obtain ⟨cf, i, k, f, st, cell, h1, h2, h3, h4, h5, h6, h7⟩ := F
  obtain ⟨c2, k2, e1, e2, e3, e4, e5⟩ := E
  refine ⟨cf, i, k, f, st, cell, h1, h2, h3, h4, K.2.1 st cell h5 (fun q => ?_), h6, h7⟩
  cases List.mem_singleton.mp q
  cases h5.symm.trans e1
  rw [h6] at e4; cases e4
/-! an array of ints, booleans, chars, bytes: its list of values -/
def Ar (Z : State) (h : Heap) (a : Addr) (ty : FieldType) (vs : List Int32) : Prop := ∃ cl : Cell, Arr Z h a cl ty ∧ cl.slots = (vs.map Value.int).toArray ∧ vs.length < 2 ^ 31
def InB (vs : List Int32) (j : Int32) : Prop := ¬ j < 0 ∧ j.toNatClampNeg < vs.length
def rd (vs : List Int32) (j : Int32) : Int32 := vs.getD j.toNatClampNeg 0
def wr (vs : List Int32) (j x : Int32) : List Int32 := vs.set j.toNatClampNeg x
variable {h' : Heap} {a b : Addr} {ty : FieldType} {vs : List Int32}
theorem inbL {j : Int32} {n : Nat} (hl : vs.length = n) (h : ¬ j < 0 ∧ j.toNatClampNeg < n) : InB vs j := ⟨h.1, hl ▸ h.2⟩
theorem Ar.lt (F : Ar Z h a ty vs) : a < h.size := by obtain ⟨cl, A, -⟩ := F; exact A.lt
theorem Ar.small (F : Ar Z h a ty vs) : vs.length < 2 ^ 31 := by obtain ⟨cl, A, e1, e2⟩ := F; exact e2
theorem Ar.ext (F : Ar Z h a ty vs) (E : Ext h h') : Ar Z h' a ty vs := by obtain ⟨cl, A, r⟩ := F; exact ⟨cl, A.ext E, r⟩
theorem Ar.other {sl : Nat} {v : Value} (F : Ar Z h b ty vs) (W : Wr h h' a sl v) (q : b ≠ a) : Ar Z h' b ty vs := by obtain ⟨cl, A, r⟩ := F; exact ⟨cl, A.other W q, r⟩
theorem Ar.keep {ws : List Addr} (F : Ar Z h a ty vs) (K : Keep h h' ws) (q : a ∉ ws) : Ar Z h' a ty vs := by obtain ⟨cl, A, r⟩ := F; exact ⟨cl, ⟨K.2.1 a cl A.1 q, A.2⟩, r⟩
theorem Ar.same {j x : Int32} (F : Ar Z h a ty vs) (W : Wr h h' a j.toNatClampNeg (.int x)) : Ar Z h' a ty (wr vs j x) := by
  obtain ⟨cl, A, e1, e2⟩ := F
  refine ⟨_, A.same W, ?_, by simpa [wr] using e2⟩
  show cl.slots.setIfInBounds _ _ = _
  rw [e1, wr, List.map_set]
  simp
theorem Ar.new {k : ClassId} {n : Int32} (A : Arr Z h a (newA k ty n) ty) (hn : ¬ n < 0) (hd : defaultValue ty = .int 0) : Ar Z h a ty (List.replicate n.toNatClampNeg 0) := by
  refine ⟨_, A, ?_, by simpa using (back32 hn).2⟩
  show Array.replicate n.toNatClampNeg (defaultValue ty) = _
  rw [hd, List.map_replicate]
  simp
theorem Ar.inb {cl : Cell} {j : Int32} (e1 : cl.slots = (vs.map Value.int).toArray) (q : InB vs j) : ¬ (j < 0 ∨ cl.slots.size ≤ j.toNatClampNeg) := by
  rw [e1]; simp only [List.size_toArray, List.length_map]
  exact fun z => z.elim q.1 (fun y => by have := q.2; omega)
theorem Ar.get {cl : Cell} {j : Int32} (e1 : cl.slots = (vs.map Value.int).toArray) (q : InB vs j) : cl.slots[j.toNatClampNeg]? = some (.int (rd vs j)) := by
  rw [e1]; have := q.2
  simp [rd, List.getElem?_eq_getElem this, List.getD_eq_getElem?_getD]
theorem eLen (X : Stand p l e R s m args below meth c T locs cells slots) (hx : p.tables.exec = Jvm.exec) (hZ : Z.Warmed39 s.vm) (eT : T.heap = h) (F : Ar Z h a ty vs) (n : Int32) (hn : Int32.ofNat vs.length = n) (hd : decode c.code pc = .ok (.arraylength, 1)) (hp : pc + 1 = pc') (kk : Ends p e below P T m pc' L (.int n :: S)) : Ends p e below P T m pc L (.ref a :: S) := by
  subst hp hn
  obtain ⟨cl, A, e1, e2⟩ := F
  refine kk.of fun t k => X.arraylength hx (by rw [eT]; exact A.1) (State.isArrayOf_alike hZ.alike A.2.1) (g := mkF m pc L (.ref a :: S)) rfl rfl hd _ ?_
  rw [e1]; simp only [List.size_toArray, List.length_map]; exact k
theorem eIALoad (X : Stand p l e R s m args below meth c T locs cells slots) (hx : p.tables.exec = Jvm.exec) (hZ : Z.Warmed39 s.vm) (eT : T.heap = h) (F : Ar Z h a .int vs) {j : Int32} (v : Int32) (hv : rd vs j = v) (q : InB vs j) (hd : decode c.code pc = .ok (.iaload, 1)) (hp : pc + 1 = pc') (kk : Ends p e below P T m pc' L (.int v :: S)) : Ends p e below P T m pc L (.int j :: .ref a :: S) := by
  subst hp hv
  obtain ⟨cl, A, e1, e2⟩ := F
  exact kk.of fun t k => X.iaload hx (by rw [eT]; exact A.1) (State.isArrayOf_alike hZ.alike A.2.1) A.2.2 (Ar.inb e1 q) (Ar.get e1 q) (g := mkF m pc L (.int j :: .ref a :: S)) rfl rfl hd _ k
theorem eCALoad (X : Stand p l e R s m args below meth c T locs cells slots) (hx : p.tables.exec = Jvm.exec) (hZ : Z.Warmed39 s.vm) (eT : T.heap = h) (F : Ar Z h a .char vs) {j : Int32} (v : Int32) (hv : rd vs j = v) (q : InB vs j) (hd : decode c.code pc = .ok (.caload, 1)) (hp : pc + 1 = pc') (kk : Ends p e below P T m pc' L (.int v :: S)) : Ends p e below P T m pc L (.int j :: .ref a :: S) := by
  subst hp hv
  obtain ⟨cl, A, e1, e2⟩ := F
  exact kk.of fun t k => X.caload hx (by rw [eT]; exact A.1) (State.isArrayOf_alike hZ.alike A.2.1) A.2.2 (Ar.inb e1 q) (Ar.get e1 q) (g := mkF m pc L (.int j :: .ref a :: S)) rfl rfl hd _ k
theorem eZALoad (X : Stand p l e R s m args below meth c T locs cells slots) (hx : p.tables.exec = Jvm.exec) (hZ : Z.Warmed39 s.vm) (eT : T.heap = h) (F : Ar Z h a .boolean vs) {j : Int32} (v : Int32) (hv : rd vs j = v) (q : InB vs j) (hd : decode c.code pc = .ok (.baload, 1)) (hp : pc + 1 = pc') (kk : Ends p e below P T m pc' L (.int v :: S)) : Ends p e below P T m pc L (.int j :: .ref a :: S) := by
  subst hp hv
  obtain ⟨cl, A, e1, e2⟩ := F
  exact kk.of fun t k => X.baloadBooleans hx (by rw [eT]; exact A.1) (State.isArrayOf_alike hZ.alike A.2.1) A.2.2 (Ar.inb e1 q) (Ar.get e1 q) (g := mkF m pc L (.int j :: .ref a :: S)) rfl rfl hd _ k
theorem eIAStore (X : Stand p l e R s m args below meth c T locs cells slots) (hx : p.tables.exec = Jvm.exec) (hZ : Z.Warmed39 s.vm) (eT : T.heap = h) (F : Ar Z h a .int vs) {j x : Int32} (q : InB vs j) (hd : decode c.code pc = .ok (.iastore, 1)) (hp : pc + 1 = pc')
    (kk : ∀ T' h', Stand p l e R s m args below meth c T' (locs ++ [⟨a, j.toNatClampNeg⟩]) cells slots → T'.heap = h' → Wr h h' a j.toNatClampNeg (.int x) → Ar Z h' a .int (wr vs j x) → Ends p e below P T' m pc' L S) : Ends p e below P T m pc L (.int x :: .int j :: .ref a :: S) := by
  subst hp
  have F0 := F
  obtain ⟨cl, A, e1, e2⟩ := F
  obtain ⟨T', h', X', e', W, st⟩ := stI X hx hZ eT A (Ar.inb e1 q) (g := mkF m pc L (.int x :: .int j :: .ref a :: S)) rfl rfl hd
  exact (kk T' h' X' e' W (F0.same W)).of st
theorem eCAStore (X : Stand p l e R s m args below meth c T locs cells slots) (hx : p.tables.exec = Jvm.exec) (hZ : Z.Warmed39 s.vm) (eT : T.heap = h) (F : Ar Z h a .char vs) {j x : Int32} (q : InB vs j) (hd : decode c.code pc = .ok (.castore, 1)) (hp : pc + 1 = pc')
    (kk : ∀ T' h', Stand p l e R s m args below meth c T' (locs ++ [⟨a, j.toNatClampNeg⟩]) cells slots → T'.heap = h' → Wr h h' a j.toNatClampNeg (.int (nar .char x)) → Ar Z h' a .char (wr vs j (nar .char x)) → Ends p e below P T' m pc' L S) : Ends p e below P T m pc L (.int x :: .int j :: .ref a :: S) := by
  subst hp
  have F0 := F
  obtain ⟨cl, A, e1, e2⟩ := F
  obtain ⟨T', h', X', e', W, st⟩ := stC X hx hZ eT A (Ar.inb e1 q) (g := mkF m pc L (.int x :: .int j :: .ref a :: S)) rfl rfl hd
  exact (kk T' h' X' e' W (F0.same W)).of st
theorem eZAStore (X : Stand p l e R s m args below meth c T locs cells slots) (hx : p.tables.exec = Jvm.exec) (hZ : Z.Warmed39 s.vm) (eT : T.heap = h) (F : Ar Z h a .boolean vs) {j x : Int32} (q : InB vs j) (hd : decode c.code pc = .ok (.bastore, 1)) (hp : pc + 1 = pc')
    (kk : ∀ T' h', Stand p l e R s m args below meth c T' (locs ++ [⟨a, j.toNatClampNeg⟩]) cells slots → T'.heap = h' → Wr h h' a j.toNatClampNeg (.int (nar .boolean x)) → Ar Z h' a .boolean (wr vs j (nar .boolean x)) → Ends p e below P T' m pc' L S) : Ends p e below P T m pc L (.int x :: .int j :: .ref a :: S) := by
  subst hp
  have F0 := F
  obtain ⟨cl, A, e1, e2⟩ := F
  obtain ⟨T', h', X', e', W, st⟩ := stZ X hx hZ eT A (Ar.inb e1 q) (g := mkF m pc L (.int x :: .int j :: .ref a :: S)) rfl rfl hd
  exact (kk T' h' X' e' W (F0.same W)).of st
theorem eNewA (X : Stand p l e R s m args below meth c T locs cells slots) (hx : p.tables.exec = Jvm.exec) (hZ : Z.Warmed39 s.vm) {aty : ArrayType} (hty : newarray.typeOf aty = ty) (hdf : defaultValue ty = .int 0) (w : (Cond.arrayClass ty).before a0 Z = true) (eT : T.heap = h) (hd : decode c.code pc = .ok (.newarray aty, 2)) {n : Int32} (hn : ¬ n < 0) {cap : Nat} (hcap : n.toNatClampNeg ≤ cap) (hb : cap * 8 ≤ 536870912) (hc : cells + 1 ≤ R.cells) (hl : slots + cap ≤ R.slots) (hp : pc + 2 = pc')
    (kk : ∀ T' h' a, a = h.size → Stand p l e R s m args below meth c T' locs (cells + 1) (slots + cap) → T'.heap = h' → Ext h h' → Ar Z h' a ty (List.replicate n.toNatClampNeg 0) → Ends p e below P T' m pc' L (.ref a :: S)) : Ends p e below P T m pc L (.int n :: S) := by
  subst hp hty
  obtain ⟨T', h', cA, X', e', E, A, st⟩ := newP X hx hZ w eT (g := mkF m pc L (.int n :: S)) rfl hd rfl hn hcap hb hc hl
  exact (kk T' h' _ rfl X' e' E (Ar.new A hn hdf)).of st
theorem eNewE (X : Stand p l e R s m args below meth c T locs cells slots) (hx : p.tables.exec = Jvm.exec) (hZ : Z.Warmed39 s.vm) {aty : ArrayType} (hty : newarray.typeOf aty = ty) (hdf : defaultValue ty = .int 0) (w : (Cond.arrayClass ty).before a0 Z = true) (eT : T.heap = h) (hd : decode c.code pc = .ok (.newarray aty, 2)) {n : Int32} (hn : ¬ n < 0) {cap : Nat} (hcap : n.toNatClampNeg ≤ cap) (hb : cap * 8 ≤ 536870912) (hc : cells + 1 ≤ R.cells) (hl : slots + cap ≤ R.slots) (ad : String) (had : "[" ++ ty.toString = ad) (hp : pc + 2 = pc')
    (kk : ∀ T' h' a, a = h.size → Stand p l e R s m args below meth c T' locs (cells + 1) (slots + cap) → T'.heap = h' → Ext h h' → Ar Z h' a ty (List.replicate n.toNatClampNeg 0) → Exa Z h' a ad → Ends p e below P T' m pc' L (.ref a :: S)) : Ends p e below P T m pc L (.int n :: S) := by
  subst hp hty
  obtain ⟨T', h', cA, X', e', E, A, Ex, st⟩ := newPE X hx hZ w eT (g := mkF m pc L (.int n :: S)) rfl hd rfl hn hcap hb hc hl had
  exact (kk T' h' _ rfl X' e' E (Ar.new A hn hdf) Ex).of st
theorem eCast (X : Stand p l e R s m args below meth c T locs cells slots) (hx : p.tables.exec = Jvm.exec) (hZ : Z.Warmed39 s.vm) {own K : String} {index : Nat} (hown : s.vm.findClass own = some m.cls) (w : (Cond.classLink own index K).before a0 Z = true) (eT : T.heap = h) (F : Ins Z h a K true) (hd : decode c.code pc = .ok (.checkcast index, 3)) (hp : pc + 3 = pc')
    (kk : ∀ T', Stand p l e R s m args below meth c T' locs cells slots → T'.heap = h → Ends p e below P T' m pc' L (.ref a :: S)) : Ends p e below P T m pc L (.ref a :: S) := by
  subst hp
  obtain ⟨T', X', e', st⟩ := castY X hx hZ hown w eT F (g := mkF m pc L (.ref a :: S)) rfl rfl hd
  exact (kk T' X' e').of st
theorem eNonNullY (X : Stand p l e R s m args below meth c T locs cells slots) (hx : p.tables.exec = Jvm.exec) {o : Int} (hd : decode c.code pc = .ok (.ifnonnull o, 3)) (ho : 0 ≤ (pc : Int) + o) (hp : ((pc : Int) + o).toNat = pc') (kk : Ends p e below P T m pc' L S) : Ends p e below P T m pc L (.ref a :: S) :=
  kk.of fun t h => XT.ifnonnullYes X.here hx rfl rfl hd rfl ho hp h
theorem eNonNullN (X : Stand p l e R s m args below meth c T locs cells slots) (hx : p.tables.exec = Jvm.exec) {o : Int} (hd : decode c.code pc = .ok (.ifnonnull o, 3)) (hp : pc + 3 = pc') (kk : Ends p e below P T m pc' L S) : Ends p e below P T m pc L (.null :: S) := by
  subst hp; exact kk.of fun t h => XT.ifnonnullNo X.here hx rfl hd rfl h
theorem eNullY (X : Stand p l e R s m args below meth c T locs cells slots) (hx : p.tables.exec = Jvm.exec) {o : Int} (hd : decode c.code pc = .ok (.ifnull o, 3)) (ho : 0 ≤ (pc : Int) + o) (hp : ((pc : Int) + o).toNat = pc') (kk : Ends p e below P T m pc' L S) : Ends p e below P T m pc L (.null :: S) :=
  kk.of fun t h => XS.ifnullYes X.here hx rfl rfl hd rfl ho hp h
theorem eNullN (X : Stand p l e R s m args below meth c T locs cells slots) (hx : p.tables.exec = Jvm.exec) {o : Int} (hd : decode c.code pc = .ok (.ifnull o, 3)) (hp : pc + 3 = pc') (kk : Ends p e below P T m pc' L S) : Ends p e below P T m pc L (.ref a :: S) := by
  subst hp; exact kk.of fun t h => XS.ifnullNo X.here hx rfl hd rfl h
theorem eTsw (X : Stand p l e R s m args below meth c T locs cells slots) (hx : p.tables.exec = Jvm.exec) {dflt low high : Int} {offs : Array Int} {len : Nat} {o : Int} {i : Int32} (hd : decode c.code pc = .ok (.tableswitch dflt low high offs, len)) (hin : ¬ (i.toInt < low ∨ i.toInt > high)) (hoff : offs[(i.toInt - low).toNat]? = some o) (ho : 0 ≤ (pc : Int) + o) (hp : ((pc : Int) + o).toNat = pc') (kk : Ends p e below P T m pc' L S) : Ends p e below P T m pc L (.int i :: S) :=
  kk.of fun t h => XS.tswIn X.here hx rfl rfl hd rfl hin hoff ho hp h
theorem eLsw (X : Stand p l e R s m args below meth c T locs cells slots) (hx : p.tables.exec = Jvm.exec) {dflt : Int} {a1 o1 a2 o2 : Int} {len : Nat} {o : Int} {i : Int32} (hd : decode c.code pc = .ok (.lookupswitch dflt #[(a1, o1), (a2, o2)], len)) (hso : a1 < a2) (hoff : (if a1 = i.toInt then o1 else if a2 = i.toInt then o2 else dflt) = o) (ho : 0 ≤ (pc : Int) + o) (hp : ((pc : Int) + o).toNat = pc') (kk : Ends p e below P T m pc' L S) : Ends p e below P T m pc L (.int i :: S) := by
  subst hp hoff
  refine kk.of fun t h => ?_
  by_cases h1 : a1 = i.toInt
  · simp only [h1, if_true] at h ho
    jvm_step X.here [X.here.top, hx, hd, hso, h1, ho, lookupswitch.wp_chain, lookupswitch.offset_cons, lookupswitch.offset_nil]
    exact ⟨by rw [← h1]; exact hso, h⟩
  · by_cases h2 : a2 = i.toInt
    · simp only [h1, h2, if_true, if_false] at h ho
      jvm_step X.here [X.here.top, hx, hd, hso, h1, h2, ho, lookupswitch.wp_chain, lookupswitch.offset_cons, lookupswitch.offset_nil]
      exact ⟨by rw [← h2]; exact hso, h⟩
    · simp only [h1, h2, if_false] at h ho
      jvm_step X.here [X.here.top, hx, hd, hso, h1, h2, ho, lookupswitch.wp_chain, lookupswitch.offset_cons, lookupswitch.offset_nil]
      exact h
/-! calls -/
def PostQ (s : State) (C D : Nat) (Q : Option Value → Heap → List Loc → Prop) : State → Outcome → Prop := fun t o => ∃ v L, o = .returned v ∧ Q v t.heap L ∧ FrameEnd s o t L C D
abbrev MetC (l : Launch) (Z : State) (y : MethodName) (ws : List Jvm.Cond) (rm : Room) (as' : Array Value) (h : Heap) (C D : Nat) (Q : Option Value → Heap → List Loc → Prop) : Prop :=
  MetFree l y (head1 ws rm) (fun a U => a = as' ∧ Z.Warmed39 U.vm ∧ U.heap = h) (fun _ _ _ _ _ => True) (fun _ U o U' => PostQ U C D Q U' o)
abbrev MetQ (l : Launch) (Z : State) (y : MethodName) (ws : List Jvm.Cond) (rm : Room) (as' : Array Value) (h : Heap) (Q : Option Value → Heap → List Loc → Prop) : Prop :=
  MetFree l y (head1 ws rm) (fun a U => a = as' ∧ Z.Warmed39 U.vm ∧ U.heap = h) (fun _ _ _ _ _ => True) (fun _ U o U' => PostQ U rm.cells rm.slots Q U' o)
theorem eCallS (X : Stand p l e R s m args below meth c T locs cells slots) (hx : p.tables.exec = Jvm.exec) (hZ : Z.Warmed39 s.vm) {own : String} {index : Nat} {y : MethodName} {bytes : ByteArray} {maxL : Nat} {ret : Option FieldType} (hown : s.vm.findClass own = some m.cls) (w1 : (Cond.methodLink own index y).before a0 Z = true) (w2 : (Cond.static y).before a0 Z = true) (w3 : (Cond.initialized y.cls).before a0 Z = true) (w4 : (Cond.code y bytes maxL ret).before a0 Z = true) (hy : y.cls ≠ "java/lang/invoke/MethodHandle" ∧ y.cls ≠ "java/lang/invoke/VarHandle") (eT : T.heap = h) {rm : Room} {Q : Option Value → Heap → List Loc → Prop} {argsL rest : List Value} (hM : MetQ l Z y [Cond.code y bytes maxL ret] rm argsL.toArray h Q) (hlen : ∀ sig, parseMethodDescriptor y.desc = some sig → argsL.length = sig.parameters.length) (hS : S = argsL.reverse ++ rest) (hsize : L.size = c.maxLocals) (W : Nat) (hW : 2 * 0 + (rest.map fun v => v.category).sum ≤ W) (hf : rm.frames + 1 ≤ R.frames) (hl : W + (maxL + 11) + rm.locals ≤ R.locals) (hc : cells + rm.cells ≤ R.cells) (hs : slots + rm.slots ≤ R.slots) (hd : decode c.code pc = .ok (.invokestatic index, 3)) (hp : pc + 3 = pc')
    (kk : ∀ v T' L', Q v T'.heap L' → Stand p l e R s m args below meth c T' (locs ++ L') (cells + rm.cells) (slots + rm.slots) → Ends p e below P T' m pc' L (v.toList ++ rest)) : Ends p e below P T m pc L S := by
  subst hp hS
  obtain ⟨v, _, ⟨T1, L1, k1, n1⟩, -, X1, ⟨Lc, hQ, l1, y1, z1⟩, st⟩ := Jvm.LawKit.callS X hx (y := y) hown (mvT hZ w1) (mvT hZ w2) (mvT hZ w3) (mvT hZ w4) hy (backOf (W := W) (Q := Q) hM hZ w4 w3 hf hl) (g := mkF m pc L (argsL.reverse ++ rest)) rfl hsize (argsL := argsL) (rest := rest) hlen rfl hW hd (fun _ _ => ⟨rfl, eT, hc, hs⟩)
  dsimp only [Pt.U, Pt.locs, Pt.cells, Pt.slots] at X1 l1 y1 z1 st hQ
  subst l1 y1 z1
  exact (kk v T1 Lc hQ X1).of st
theorem eCallI (X : Stand p l e R s m args below meth c T locs cells slots) (hx : p.tables.exec = Jvm.exec) (hZ : Z.Warmed39 s.vm) {own : String} {index : Nat} {y : MethodName} {bytes : ByteArray} {maxL : Nat} (hy1 : y.name = "<init>") (hown : s.vm.findClass own = some m.cls) (w1 : (Cond.methodLink own index y).before a0 Z = true) (w2 : (Cond.instanceMethod y).before a0 Z = true) (w3 : (Cond.initialized y.cls).before a0 Z = true) (w4 : (Cond.code y bytes maxL none).before a0 Z = true) (hy : y.cls ≠ "java/lang/invoke/MethodHandle" ∧ y.cls ≠ "java/lang/invoke/VarHandle") (eT : T.heap = h) {rm : Room} {Q : Option Value → Heap → List Loc → Prop} {argsL rest : List Value} (hM : MetQ l Z y [Cond.code y bytes maxL none] rm (.ref a :: argsL).toArray h Q) (hlen : ∀ sig, parseMethodDescriptor y.desc = some sig → argsL.length = sig.parameters.length) (hS : S = argsL.reverse ++ .ref a :: rest) (hsize : L.size = c.maxLocals) (W : Nat) (hW : 2 * 0 + (rest.map fun v => v.category).sum ≤ W) (hf : rm.frames + 1 ≤ R.frames) (hl : W + (maxL + 11) + rm.locals ≤ R.locals) (hc : cells + rm.cells ≤ R.cells) (hs : slots + rm.slots ≤ R.slots) (hd : decode c.code pc = .ok (.invokespecial index, 3)) (hp : pc + 3 = pc')
    (kk : ∀ v T' L', Q v T'.heap L' → Stand p l e R s m args below meth c T' (locs ++ L') (cells + rm.cells) (slots + rm.slots) → Ends p e below P T' m pc' L (v.toList ++ rest)) : Ends p e below P T m pc L S := by
  subst hp hS
  obtain ⟨v, _, ⟨T1, L1, k1, n1⟩, -, X1, ⟨Lc, hQ, l1, y1, z1⟩, st⟩ := X.specialBack hx (y := y) hy1 hown (mvT hZ w1) (mvT hZ w2) (mvT hZ w4) hy (backOf (W := W) (Q := Q) hM hZ w4 w3 hf hl) (g := mkF m pc L (argsL.reverse ++ .ref a :: rest)) rfl hsize (Steps.refl _) (a := a) (argsL := argsL) (rest := rest) hlen rfl hW hd (fun _ _ => ⟨rfl, eT, hc, hs⟩)
  dsimp only [Pt.U, Pt.locs, Pt.cells, Pt.slots] at X1 l1 y1 z1 st hQ
  subst l1 y1 z1
  exact (kk v T1 Lc hQ X1).of fun t k => st.trans k
theorem eCallV (X : Stand p l e R s m args below meth c T locs cells slots) (hx : p.tables.exec = Jvm.exec) (hZ : Z.Warmed39 s.vm) {own C : String} {index : Nat} {y : MethodName} {bytes : ByteArray} {maxL : Nat} {ret : Option FieldType} (hown : s.vm.findClass own = some m.cls) (w1 : (Cond.methodLink own index y).before a0 Z = true) (w2 : (Cond.declares y).before a0 Z = true) (w5 : (Cond.selects C y y).before a0 Z = true) (w6 : (Cond.instanceMethod y).before a0 Z = true) (w3 : (Cond.initialized y.cls).before a0 Z = true) (w4 : (Cond.code y bytes maxL ret).before a0 Z = true) (hy : y.cls ≠ "java/lang/invoke/MethodHandle" ∧ y.cls ≠ "java/lang/invoke/VarHandle") (eT : T.heap = h) (E : Exa Z h a C) {rm : Room} {Q : Option Value → Heap → List Loc → Prop} {argsL rest : List Value} (hM : MetQ l Z y [Cond.code y bytes maxL ret] rm (.ref a :: argsL).toArray h Q) (hlen : ∀ sig, parseMethodDescriptor y.desc = some sig → argsL.length = sig.parameters.length) (hS : S = argsL.reverse ++ .ref a :: rest) (hsize : L.size = c.maxLocals) (W : Nat) (hW : 2 * 0 + (rest.map fun v => v.category).sum ≤ W) (hf : rm.frames + 1 ≤ R.frames) (hl : W + (maxL + 11) + rm.locals ≤ R.locals) (hc : cells + rm.cells ≤ R.cells) (hs : slots + rm.slots ≤ R.slots) (hd : decode c.code pc = .ok (.invokevirtual index, 3)) (hp : pc + 3 = pc')
    (kk : ∀ v T' L', Q v T'.heap L' → Stand p l e R s m args below meth c T' (locs ++ L') (cells + rm.cells) (slots + rm.slots) → Ends p e below P T' m pc' L (v.toList ++ rest)) : Ends p e below P T m pc L S := by
  subst hp hS
  obtain ⟨cq, kq, q1, q2, q3⟩ := isOf hZ eT E
  obtain ⟨v, _, ⟨T1, L1, k1, n1⟩, -, X1, ⟨Lc, hQ, l1, y1, z1⟩, st⟩ := X.virtualBack hx (y := y) (z := y) hown (mvT hZ w1) (mvT hZ w2) (notFace_of_selects (args := #[]) (mvT hZ w5)) (mvT hZ w5) (mvT hZ w6) hy (backOf (W := W) (Q := Q) hM hZ w4 w3 hf hl) q1 q3 (g := mkF m pc L (argsL.reverse ++ .ref a :: rest)) rfl hsize (Steps.refl _) (argsL := argsL) (rest := rest) hlen rfl hW hd (fun _ _ => ⟨rfl, eT, hc, hs⟩)
  dsimp only [Pt.U, Pt.locs, Pt.cells, Pt.slots] at X1 l1 y1 z1 st hQ
  subst l1 y1 z1
  exact (kk v T1 Lc hQ X1).of fun t k => st.trans k
/-! returns -/
theorem eEnd (X : Stand p l e R s m args below meth c T locs cells slots) (hlk : meth.locks = false) {C D : Nat} {Q : Option Value → Heap → List Loc → Prop} {v : Option Value} (hv : meth.sig.returnType = none → v = none) (hC : cells ≤ C) (hD : slots ≤ D) (hq : Q v T.heap locs)
    (st : ∀ fs, (∀ (f : JFrame) (acts : List Action), f.method = m → f.locked = none → f.entered = [] → (doReturn e (T.setTop f) acts v).1 = T.setFrames fs) → Steps p.tables e below (T.setTop (mkF m pc L S)) (T.setFrames fs)) : Ends p e below (PostQ s C D Q) T m pc L S := by
  obtain ⟨fs, hr, hrun, hended, hW, hsame⟩ := X.leave (v := v) hv hlk
  exact ⟨_, _, st fs hr, hrun, hended, v, locs, rfl, hq, ⟨_, rfl⟩, hW, hsame.mono hC hD⟩
theorem eRetN (X : Stand p l e R s m args below meth c T locs cells slots) (hx : p.tables.exec = Jvm.exec) {t : FieldType} {z : Int32} (hret : meth.sig.returnType = some t) (ht : t = .boolean ∨ t = .byte ∨ t = .char ∨ t = .short) (hlk : meth.locks = false) (hd : decode c.code pc = .ok (.ireturn, 1)) {C D : Nat} {Q : Option Value → Heap → List Loc → Prop} (hC : cells ≤ C) (hD : slots ≤ D) (hq : Q (some (.int (nar t z))) T.heap locs) : Ends p e below (PostQ s C D Q) T m pc L (.int z :: S) :=
  eEnd X hlk (fun h => by rw [hret] at h; cases h) hC hD hq fun fs hr => retN X hx hret ht hd hr
theorem eRetO (X : Stand p l e R s m args below meth c T locs cells slots) (hx : p.tables.exec = Jvm.exec) {t : FieldType} {w : Value} {i : Instr} (hret : meth.sig.returnType = some t) (hn : narrow t w = w) (hi : (i = .ireturn ∧ (t = .int ∨ t = .boolean ∨ t = .byte ∨ t = .char ∨ t = .short) ∧ ∃ z, w = .int z) ∨ (i = .lreturn ∧ t = .long ∧ ∃ z, w = .long z) ∨ (i = .dreturn ∧ t = .double ∧ ∃ z, w = .double z) ∨ (i = .freturn ∧ t = .float ∧ ∃ z, w = .float z) ∨ (i = .areturn ∧ t.isReference = true ∧ w.isRef = true)) (hlk : meth.locks = false) (hd : decode c.code pc = .ok (i, 1)) {C D : Nat} {Q : Option Value → Heap → List Loc → Prop} (hC : cells ≤ C) (hD : slots ≤ D) (hq : Q (some w) T.heap locs) : Ends p e below (PostQ s C D Q) T m pc L (w :: S) :=
  eEnd X hlk (fun h => by rw [hret] at h; cases h) hC hD hq fun fs hr => retOut X hx hret hn hi hd hr
theorem eRetI (X : Stand p l e R s m args below meth c T locs cells slots) (hx : p.tables.exec = Jvm.exec) {z : Int32} (hret : meth.sig.returnType = some .int) (hlk : meth.locks = false) (hd : decode c.code pc = .ok (.ireturn, 1)) {C D : Nat} {Q : Option Value → Heap → List Loc → Prop} (hC : cells ≤ C) (hD : slots ≤ D) (hq : Q (some (.int z)) T.heap locs) : Ends p e below (PostQ s C D Q) T m pc L (.int z :: S) :=
  eRetO X hx hret rfl (Or.inl ⟨rfl, Or.inl rfl, z, rfl⟩) hlk hd hC hD hq
theorem eRetL (X : Stand p l e R s m args below meth c T locs cells slots) (hx : p.tables.exec = Jvm.exec) {z : Int64} (hret : meth.sig.returnType = some .long) (hlk : meth.locks = false) (hd : decode c.code pc = .ok (.lreturn, 1)) {C D : Nat} {Q : Option Value → Heap → List Loc → Prop} (hC : cells ≤ C) (hD : slots ≤ D) (hq : Q (some (.long z)) T.heap locs) : Ends p e below (PostQ s C D Q) T m pc L (.long z :: S) :=
  eRetO X hx hret rfl (Or.inr (Or.inl ⟨rfl, rfl, z, rfl⟩)) hlk hd hC hD hq
theorem eRetA (X : Stand p l e R s m args below meth c T locs cells slots) (hx : p.tables.exec = Jvm.exec) {t : FieldType} {w : Value} (hret : meth.sig.returnType = some t) (ht : t.isReference = true) (hn : narrow t w = w) (hw : w.isRef = true) (hlk : meth.locks = false) (hd : decode c.code pc = .ok (.areturn, 1)) {C D : Nat} {Q : Option Value → Heap → List Loc → Prop} (hC : cells ≤ C) (hD : slots ≤ D) (hq : Q (some w) T.heap locs) : Ends p e below (PostQ s C D Q) T m pc L (w :: S) :=
  eRetO X hx hret hn (Or.inr (Or.inr (Or.inr (Or.inr ⟨rfl, ht, hw⟩)))) hlk hd hC hD hq
theorem eRetV (X : Stand p l e R s m args below meth c T locs cells slots) (hx : p.tables.exec = Jvm.exec) (hret : meth.sig.returnType = none) (hlk : meth.locks = false) (hd : decode c.code pc = .ok (.return_, 1)) {C D : Nat} {Q : Option Value → Heap → List Loc → Prop} (hC : cells ≤ C) (hD : slots ≤ D) (hq : Q none T.heap locs) : Ends p e below (PostQ s C D Q) T m pc L [] :=
  eEnd X hlk (fun _ => rfl) hC hD hq fun fs hr => X.returnOut hx hret hd hr
abbrev PVI (s : State) (C D n0 : Nat) (h0 : Heap) (r : Int32) : State → Outcome → Prop := PostQ s C D (fun v h L => v = some (.int r) ∧ Fr n0 L ∧ h = h0)
abbrev PVL (s : State) (C D n0 : Nat) (h0 : Heap) (r : Int64) : State → Outcome → Prop := PostQ s C D (fun v h L => v = some (.long r) ∧ Fr n0 L ∧ h = h0)
abbrev PVW (s : State) (C D n0 : Nat) (r : Int32) : State → Outcome → Prop := PostQ s C D (fun v h L => v = some (.int r) ∧ Fr n0 L)
end Own

/-! own layer, wide: strings, constants, callees that may intern (every lemma here is of this text) -/
section Wide
variable {p : Program} {l : Launch} {e : Env} {R : Room} {s : State} {m : MethodId} {args : Array Value} {below : List Frame} {meth : Method} {c : Code} {T : State} {locs : List Loc} {cells slots : Nat} {P : State → Outcome → Prop} {pc pc' : Nat} {L L' : Array Slot} {S : List Value} {Z : State} {a0 : Array Value} {h h' : Heap} {a b : Addr} {vm0 vm1 : Vm} {bs : List Int32} {ws : List Addr}
/-- objects of other classes than String and byte[] -/
def Oth (Z : State) (h : Heap) (ws : List Addr) : Prop := ∀ w ∈ ws, ∃ C, Exa Z h w C ∧ C ≠ "java/lang/String" ∧ C ≠ "[B"
theorem Oth.nil : Oth Z h [] := fun _ q => nomatch q
/-- a compact Latin-1 String with these bytes -/
def Str (Z : State) (h : Heap) (a : Addr) (bs : List Int32) : Prop := Exa Z h a "java/lang/String" ∧ Fld Z h a "java/lang/String" "coder" "B" (.int 0) ∧ ∃ b, Fld Z h a "java/lang/String" "value" "[B" (.ref b) ∧ Exa Z h b "[B" ∧ Ar Z h b .byte bs
theorem Oth.not (O : Oth Z h ws) {C : String} (E : Exa Z h a C) (hC : C = "java/lang/String" ∨ C = "[B") : a ∉ ws := fun q => by
  obtain ⟨D, F, d1, d2⟩ := O a q
  rcases hC with rfl | rfl
  · exact Exa.ne E F (Ne.symm d1) rfl
  · exact Exa.ne E F (Ne.symm d2) rfl
theorem Str.keep (F : Str Z h a bs) (K : Keep h h' ws) (O : Oth Z h ws) : Str Z h' a bs := by
  obtain ⟨E, F1, b, F2, E2, A⟩ := F
  exact ⟨E.keep K, F1.keep K (O.not E (Or.inl rfl)), b, F2.keep K (O.not E (Or.inl rfl)), E2.keep K, A.keep K (O.not E2 (Or.inr rfl))⟩
theorem Str.ext (F : Str Z h a bs) (E : Ext h h') : Str Z h' a bs := by
  obtain ⟨E1, F1, b, F2, E2, A⟩ := F
  exact ⟨E1.ext E, F1.ext E, b, F2.ext E, E2.ext E, A.ext E⟩
theorem Str.exa (F : Str Z h a bs) : Exa Z h a "java/lang/String" := F.1
theorem Keep.of_ext (E : Ext h h') : Keep h h' [] := (Keep.refl h []).ext E
/-- the switch COMPACT_STRINGS is on -/
def Gd (Z : State) (h : Heap) : Prop := ∃ z : Int32, z ≠ 0 ∧ Sta Z h "java/lang/String" "COMPACT_STRINGS" "Z" (.int z)
theorem Gd.keep (G : Gd Z h) (K : Keep h h' ws) (O : Oth Z h ws) : Gd Z h' := by
  obtain ⟨z, hz, cf, i, k, f, st, cell, h1, h2, h3, h4, h5, h6, h7⟩ := G
  refine ⟨z, hz, cf, i, k, f, st, cell, h1, h2, h3, h4, K.2.1 st cell h5 (fun q => ?_), h6, h7⟩
  obtain ⟨C, ⟨c2, k2, e1, e2, e3, e4, e5⟩, -⟩ := O st q
  cases h5.symm.trans e1
  rw [h6] at e4; cases e4
/-! the constants -/
def hst (Z : State) (vm : Vm) (h : Heap) : State := { Z with vm := vm, heap := h }
def HB (Z : State) (cs : List (String × Nat × String)) (vm : Vm) (h : Heap) : Prop := ∀ own i t, (own, i, t) ∈ cs → ConstHeldL (hst Z vm h) own i
def Lnk (Z : State) (a0 : Array Value) (cs : List (String × Nat × String)) : Prop := ∀ own i t, (own, i, t) ∈ cs → (Cond.stringLink own i t).before a0 Z = true
variable {cs : List (String × Nat × String)}
theorem slOf_keep {vm vm' : Vm} {u : Array UInt16} (hZ : Z.Warmed39 vm) (hal : vm.Alike vm') (K : Keep h h' ws) (O : Oth Z h ws) (F : SlOf (hst Z vm h) a u) : SlOf (hst Z vm' h') a u := by
  obtain ⟨q, cS, h1, h2, ⟨kS, k1, k2, k3⟩, h4, h5⟩ := F
  obtain ⟨kS', hk', ek⟩ := hal.2.2 _ _ k1
  have z1 : Z.vm.findClass "java/lang/String" = some q.sC.cls := by rw [← hZ.alike.findClass, h2.2.2]; exact h2.2.1
  have z2 : Z.vm.findClass "[B" = some q.SA.cls := by rw [← hZ.alike.findClass]; exact h4
  have n1 : q.sa ∉ ws := fun w => by
    obtain ⟨D, ⟨c2, k2, e1, e2, -⟩, d1, d2⟩ := O _ w
    cases (show h[q.sa]? = some q.sC from h2.1.1).symm.trans e1
    obtain ⟨ka, ga, gb⟩ := Vm.findClass_spec z1
    obtain ⟨kb, gc, gd⟩ := Vm.findClass_spec e2
    cases ga.symm.trans gc
    exact d1 (gd.symm.trans gb)
  have n2 : q.sd ∉ ws := fun w => by
    obtain ⟨D, ⟨c2, k2, e1, e2, -⟩, d1, d2⟩ := O _ w
    cases (show h[q.sd]? = some q.SA from h2.1.2.2.2.2.2.2.2.2.2.1).symm.trans e1
    obtain ⟨ka, ga, gb⟩ := Vm.findClass_spec z2
    obtain ⟨kb, gc, gd⟩ := Vm.findClass_spec e2
    cases ga.symm.trans gc
    exact d2 (gd.symm.trans gb)
  exact ⟨q, cS, h1, h2.carry hal (K.2.1 _ _ h2.1.1 n1) (K.2.1 _ _ h2.1.2.2.2.2.2.2.2.2.2.1 n2), ⟨kS', hk', by rw [ek]; exact k2, by rw [ek]; exact k3⟩, (by show vm'.findClass _ = _; rw [hal.findClass]; exact h4), h5⟩
/-- an entry of a String constant under warmer tables: as it was; or it was open, and now holds what the later table of texts finds -/
theorem entry_now {vm vm' : Vm} {U : State} {own text : String} {ix : Nat} {c : ClassId} {k' : Class} (hv : U.vm = vm) (hW : U.Warmed39 vm') (hc : vm.findClass own = some c) (w : (Cond.stringLink own ix text).before a0 U = true) (hk' : vm'.classes[c]? = some k') :
    ∃ (k : Class) (cf : ClassFile) (i : Nat) (units : Array UInt16), vm.classes[c]? = some k ∧ k.cf = some cf ∧ k'.cf = some cf ∧ cf.constantPool[ix]? = some (.string i) ∧ cf.constantPool[i]? = some (.utf8 units) ∧ utf16ToString? units = some text ∧
      (k'.resolved[ix]? = k.resolved[ix]? ∨ (k.resolved[ix]? = some none ∧ ∃ x, k'.resolved[ix]? = some (some (.string x)) ∧ vm'.interned.find? (fun p => p.1 == units) = some (units, x))) := by
  subst hv
  obtain ⟨k, cf, i, units, e1, e2, e3, e4, e5, e6, -⟩ := Cond.stringLink_spec hc w
  obtain ⟨k2, f1, f2, -, f3, -⟩ := hW.2.2.2 c k e1
  cases hk'.symm.trans f1
  refine ⟨k, cf, i, units, e1, e2, by rw [f2]; exact e2, e3, e4, e6, (f3 ix).imp id fun ⟨o1, r, o2, o3⟩ => ⟨o1, ?_⟩⟩
  rcases o3 with bad | ⟨x, t, j, us, rfl, -, p1, p2, p3⟩
  · cases r <;> simp [State.rightAt, e1, e2, e5] at bad
  · simp only [e2, Option.bind_some] at p1 p2
    cases e3.symm.trans p1
    have p4 : us = units := by simpa [ConstantPool.utf8?, e4] using p2.symm
    exact ⟨x, o2, p4 ▸ p3⟩
theorem HB.step {vm vm' : Vm} (H : HB Z cs vm h) (W : Lnk Z a0 cs) (hZ : Z.Warmed39 vm) (hW : (hst Z vm h).Warmed39 vm') (K : Keep h h' ws) (O : Oth Z h ws)
    (hnew : ∀ u x, vm'.interned.find? (fun p => p.1 == u) = some (u, x) → vm.interned.find? (fun p => p.1 == u) = some (u, x) ∨ SlOf (hst Z vm' h') x u) : HB Z cs vm' h' := by
  intro own ix tx hm c k' cf' i' u' x q1 q2 q3 q4 q5 q6
  have hc : vm.findClass own = some c := (hW.alike.findClass _ _).symm.trans q1
  obtain ⟨k, cf, i, u, e1, e2, e3, e4, e5, -, e6⟩ := entry_now (a0 := a0) (U := hst Z vm h) rfl hW hc (mvS (s := hst Z vm h) hZ (W own ix tx hm)) q2
  cases q3.symm.trans e3
  cases q4.symm.trans e4
  cases q5.symm.trans e5
  have old := H own ix tx hm c k cf' i' u' x hc e1 e2 e4 e5
  have up : SlOf (hst Z vm h) x u' → SlOf (hst Z vm' h') x u' := slOf_keep hZ hW.alike K O
  have fresh : k.resolved[ix]? = some none → vm'.interned.find? (fun p => p.1 == u') = some (u', x) → SlOf (hst Z vm' h') x u' := fun o f => (hnew u' x f).elim (fun f0 => up (old (Or.inr ⟨o, f0⟩))) id
  rcases e6 with same | ⟨o, y, r, f⟩
  · rw [same] at q6
    exact q6.elim (fun g => up (old (Or.inl g))) fun g => fresh g.1 g.2
  · rw [r] at q6
    rcases q6 with g | g
    · obtain rfl : y = x := by simpa using g
      exact fresh o f
    · exact absurd g.1 (by simp)
theorem HB.warm {vm vm' : Vm} (H : HB Z cs vm h) (W : Lnk Z a0 cs) (hZ : Z.Warmed39 vm) {s : State} (hW : (s.setVm vm).WarmedH vm') : HB Z cs vm' h :=
  H.step W hZ (hW : (hst Z vm h).WarmedH vm').wide (Keep.refl h []) Oth.nil fun u x q => Or.inl (by rw [State.WarmedH.interned_eq hW] at q; exact q)
theorem HB.keep {vm : Vm} (H : HB Z cs vm h) (W : Lnk Z a0 cs) (hZ : Z.Warmed39 vm) (K : Keep h h' ws) (O : Oth Z h ws) : HB Z cs vm h' :=
  H.step W hZ (State.Warmed39.refl (hst Z vm h)) K O fun u x q => Or.inl q
/-! the start moved to the state at hand -/
def lowR (R : Room) (cells slots : Nat) : Room := { frames := R.frames, cells := R.cells - cells, slots := R.slots - slots, locals := R.locals }
theorem own_reb (X : Stand p l e R s m args below meth c T locs cells slots) (hc : cells ≤ R.cells) (hl : slots ≤ R.slots) : Stand p l e (lowR R cells slots) (T.setFrames s.frames) m args below meth c T [] 0 0 := by
  obtain ⟨g0, hg0⟩ := Option.isSome_iff_exists.mp X.here.top
  obtain ⟨r, hr⟩ := State.topJava?_eq_some.mp hg0
  obtain ⟨t, ht, htf⟩ := State.frames_cons hr
  have hcur : T.cur < T.threads.size := State.cur_lt_of_frames hr
  have hF : (T.setFrames s.frames).frames = .invoking m args :: below := by rw [State.frames_setFrames _ hcur]; exact X.frames
  have hal := X.warmed.alike
  have hm' : (T.setFrames s.frames).vm.method? m = some meth := by
    show T.vm.method? m = some meth
    rw [hal.method?]; exact X.method
  have hU : (T.setFrames s.frames).localsInUse = s.localsInUse := by
    rw [State.localsInUse_invoking hF hm' X.code, State.localsInUse_invoking X.frames X.method X.code]
  have hroom : (T.setFrames s.frames).hasRoom e.platform (lowR R cells slots) = true := by
    have h := X.room
    have h1 := X.cellsAbove (n := R.cells - cells) (by omega)
    have h2 := X.slotsAbove (n := R.slots - slots) (by omega)
    have h3 := X.book
    have hq : State.slotsTrue (T.setFrames s.frames) = true := h3
    unfold State.hasRoom at h ⊢
    rw [hU, hF, State.stackLimits_setFrames, State.stackBytes_setFrames, X.limits, X.bytes, hq]
    rw [X.frames] at h
    simp only [Bool.and_eq_true, decide_eq_true_eq] at h ⊢
    exact ⟨⟨⟨h.1.1.1, h1⟩, h2⟩, trivial⟩
  have hcode : ∀ mm : MethodId, (T.setFrames s.frames).code? mm = s.code? mm := fun mm => by
    rw [State.code?_eq, State.code?_eq]
    show (T.vm.method? mm).bind _ = _
    rw [hal.method?]
  have hmeth : ∀ mm : MethodId, (T.setFrames s.frames).vm.method? mm = s.vm.method? mm := fun mm => hal.method? mm
  have hhears : (T.setFrames s.frames).hears m below = true := by
    have h := X.hears
    cases hb : below with
    | nil => rw [hb] at h; simp only [State.hears] at h ⊢; rw [hmeth]; exact h
    | cons f r =>
      rw [hb] at h
      cases f <;> simp only [State.hears] at h ⊢ <;> first | (rw [hcode]; exact h) | (rw [hmeth]; exact h) | exact h
  refine ⟨X.admits, X.cas, X.clock, hF, hroom, hhears, hm', X.code, X.here, X.tail, State.WarmedH.refl _, by rw [State.stackLimits_setFrames], by rw [State.stackBytes_setFrames], ?_⟩
  obtain ⟨t2, ht2, -⟩ := State.frames_cons hF
  have q := (State.sameButNew.refl (T.setFrames s.frames) ht2).setFrames T.frames (by exact State.cur_lt_of_frames hF)
  have e1 : (T.setFrames s.frames).setFrames T.frames = T := by rw [State.setFrames_setFrames, State.setFrames_self ht]
  rw [e1] at q
  exact q
theorem own_reb' (X : Stand p l e R s m args below meth c T locs cells slots) (hc : cells ≤ R.cells) (hl : slots ≤ R.slots) : ∃ Y0 : State, Stand p l e (lowR R cells slots) Y0 m args below meth c T [] 0 0 ∧ Y0.vm = T.vm ∧ Y0.heap = T.heap ∧ Y0.slotsUsed = T.slotsUsed ∧ ∀ fs, Y0.setFrames fs = T.setFrames fs :=
  ⟨_, own_reb X hc hl, rfl, rfl, rfl, fun fs => by rw [State.setFrames_setFrames]⟩
theorem sl_to {vm : Vm} {U : State} {u : Array UInt16} (F : SlOf (hst Z vm h) a u) (hv : vm = U.vm) (hh : h = U.heap) : SlOf U a u := by
  subst hv hh
  exact F.moved (W := U) (Vm.Alike.refl _) fun b c q => q
theorem sl_of {vm : Vm} {U : State} {u : Array UInt16} (F : SlOf U a u) (hv : U.vm = vm) (hh : U.heap = h) : SlOf (hst Z vm h) a u := by
  subst hv hh
  exact F.moved (W := hst Z U.vm U.heap) (Vm.Alike.refl _) fun b c q => q
theorem held_to {vm : Vm} {U : State} {own : String} {i : Nat} (F : ConstHeldL (hst Z vm h) own i) (hv : vm = U.vm) (hh : h = U.heap) : ConstHeldL U own i := by
  intro c k cf j units x h1 h2 h3 h4 h5 h6
  subst hv hh
  exact sl_to (F c k cf j units x h1 h2 h3 h4 h5 h6) rfl rfl
/-! what is known of an object under later tables, said of the case's start -/
theorem exa_back {C : String} {cell : Cell} (hal : Z.vm.Alike vm0) (hc : h[a]? = some cell) (hs : cell.vm.isStatics = false) (hf : vm0.findClass C = some cell.cls) (hk : ∀ k, vm0.classes[cell.cls]? = some k → k.kind = .ordinary → cell.slots.size = k.instanceTypes.size) : Exa Z h a C := by
  have hf' : Z.vm.findClass C = some cell.cls := (hal.findClass _ _).symm.trans hf
  obtain ⟨k, h1, -⟩ := Vm.findClass_spec hf'
  obtain ⟨k', h2, ek⟩ := hal.2.2 _ _ h1
  have n1 : k'.kind = k.kind := by rw [ek]
  have n2 : k'.instanceTypes = k.instanceTypes := by rw [ek]
  exact ⟨cell, k, hc, hf', h1, hs, fun ho => n2 ▸ hk k' h2 (n1.trans ho)⟩
theorem fld_back {C n d : String} {U : State} {cell : Cell} {cf i : Nat} {k : Class} {f : Field} {v : Value} (hal : Z.vm.Alike U.vm) (hc : h[a]? = some cell) (hu : cell.vm ≠ .unknown) (hs : cell.vm.isStatics = false) (hf : U.fieldFound? C n d = some (cf, k, i, f)) (has : U.vm.assignable cell.cls cf = true) (hn : f.isStatic = false) (hv : cell.slots[f.slot]? = some v) : Fld Z h a C n d v := by
  obtain ⟨k0, hz⟩ := ff_back hal hf
  exact ⟨cell, cf, k0, i, f, hc, hz, hn, hu, hs, (hal.assignable _ _).symm.trans has, hv⟩
theorem bytes_list {units : Array UInt16} {text : String} (htext : utf16ToString? units = some text) (ht : (∀ c ∈ text.toList, c.toNat < 256) ∧ text.toList.map (fun c => Jvm.Lit.byteI c.toNat.toUInt16) = bs) : stringBytes units = (bs.map Value.int).toArray := by
  have hu := Jvm.ClassFile.units_of_text htext ht.1
  rw [SBG.stringBytes_lat (Jvm.ClassFile.lat_of_text htext ht.1), ← ht.2]
  apply Array.ext'
  simp [hu, byteValue, Jvm.Lit.byteI]
/-- what a String constant's object says, in the terms of the walk -/
theorem str_of {vm : Vm} {units : Array UInt16} {text : String} (hZ : Z.Warmed39 vm) (htext : utf16ToString? units = some text) (ht : (∀ c ∈ text.toList, c.toNat < 256) ∧ text.toList.map (fun c => Jvm.Lit.byteI c.toNat.toUInt16) = bs) (F : SlOf (hst Z vm h) a units) : Str Z h a bs := by
  have hal : Z.vm.Alike (hst Z vm h).vm := hZ.alike
  obtain ⟨⟨sa, sC, fV, fC, sd, SA, len⟩, cS, rfl, ⟨⟨x1, x2, x3, ⟨_, _, _, x4, x5⟩, ⟨_, _, _, x6, x7⟩, x8, x9, x10, x11, x12, x13, x14, x15, x16, -, -⟩, y1, y2⟩, ⟨kS, y3, -, y4⟩, y5, y6⟩ := F
  have x13' : (hst Z vm h).isArrayOf SA .byte := x13
  have y2' : sC.cls = cS := y2
  have hs : SA.slots = (bs.map Value.int).toArray := Eq.trans y6 (bytes_list htext ht)
  have hns : SA.vm.isStatics = false := by
    cases q : SA.vm with
    | statics z => exact absurd q (x13'.1 z)
    | _ => rfl
  refine ⟨exa_back hal x1 x3 (y2' ▸ y1) (fun k q _ => ?_), fld_back hal x1 x2 x3 x6 x7 x9 x11, sd, fld_back hal x1 x2 x3 x4 x5 x8 x10, exa_back hal x12 hns y5 (fun k q o => ?_), SA, ⟨x12, State.isArrayOf_alike hal.symm x13', x14⟩, hs, ?_⟩
  · cases (show (hst Z vm h).vm.classes[sC.cls]? = some kS by rw [y2']; exact y3).symm.trans q
    exact y4
  · obtain ⟨-, k9, q9, comp, r9⟩ := x13'
    cases q9.symm.trans q
    rw [r9] at o; cases o
  · have e : SA.slots.size = bs.length := by rw [hs]; simp
    exact e ▸ (show SA.slots.size < 2 ^ 31 from Nat.lt_of_le_of_lt (Nat.le_of_eq x15) x16)
theorem w39_to {A B : State} {v : Vm} (q : A.vm = B.vm) (w : A.Warmed39 v) : B.Warmed39 v := by
  have r : (B.setVm A.vm).Warmed39 v := w
  rw [q] at r
  exact r
theorem sl_in {lo hi : Nat} {U : State} {u : Array UInt16} (F : SlIn lo hi U a u) : SlOf U a u := by
  obtain ⟨q, cS, h1, h2, h3, h4, h5, -⟩ := F
  exact ⟨q, cS, h1, h2, h3, h4, h5⟩
theorem lat_inj {u v : Array UInt16} {text : String} (ht : ∀ c ∈ text.toList, c.toNat < 256) (h1 : utf16ToString? u = some text) (h2 : utf16ToString? v = some text) : u = v := by
  apply Array.ext'
  rw [Jvm.ClassFile.units_of_text h1 ht, Jvm.ClassFile.units_of_text h2 ht]
/-- 'ldc' of a String constant, cold or not -/
theorem eLdc (X : Stand p l e R (s.setVm vm0) m args below meth c T locs cells slots) (hx : p.tables.exec = Jvm.exec) (hZ : Z.Warmed39 vm0) {own text : String} {index : Nat} (hown : vm0.findClass own = some m.cls) (W : Lnk Z a0 cs) (wS : ∀ a ∈ Bundle.stringAtoms, a.before a0 Z = true) (hmem : (own, index, text) ∈ cs)
    (eT : T.heap = h) {k0 : Nat} (hS : s.Since vm0 k0) (hk : k0 ≤ h.size) (H : HB Z cs vm0 h) (ht : (∀ c ∈ text.toList, c.toNat < 256) ∧ text.toList.map (fun c => Jvm.Lit.byteI c.toNat.toUInt16) = bs) (hd : decode c.code pc = .ok (.ldc index, 2)) (n : Nat) (hn : 4 * text.toList.length ≤ n) (hbig : n ≤ 536870912) (hc : cells + 2 ≤ R.cells) (hl : slots + (n + 4) ≤ R.slots) (hp : pc + 2 = pc')
    (kk : ∀ a T', Stand p l e R (s.setVm T'.vm) m args below meth c T' locs (cells + 2) (slots + (n + 4)) → s.Since T'.vm T'.heap.size → Z.Warmed39 T'.vm → T'.vm.findClass own = some m.cls → Ext h T'.heap → HB Z cs T'.vm T'.heap → Str Z T'.heap a bs → Ends p e below P T' m pc' L (.ref a :: S)) : Ends p e below P T m pc L S := by
  subst hp
  have hZT : Z.Warmed39 T.vm := State.Warmed39.trans (t := s.setVm vm0) hZ X.warmed.wide
  have HT : HB Z cs T.vm T.heap := by rw [eT]; exact H.warm W hZ X.warmed
  have hownT : T.vm.findClass own = some m.cls := by rw [X.warmed.alike.findClass]; exact hown
  obtain ⟨Y0, Y, yv, yh, yu, yf⟩ := own_reb' X (by omega) (by omega)
  have hZY : Z.Warmed39 Y0.vm := by rw [yv]; exact hZT
  have hownY : Y0.vm.findClass own = some m.cls := by rw [yv]; exact hownT
  have w0 : (Cond.stringLink own index text).before a0 Z = true := W own index text hmem
  have wY : (Cond.stringLink own index text).before args Y0 = true := by
    have q := mvS (s := Y0) (args := args) hZY w0
    rw [show Y0.setVm Y0.vm = Y0 from rfl] at q
    exact q
  have HM : ConstHeldL (hst Z T.vm T.heap) own index := HT own index text hmem
  have hB : ConstHeldL Y0 own index := held_to HM yv.symm yh.symm
  obtain ⟨k, cf, i, units0, g1, g2, g3, g4, g5, g6, hres⟩ := Cond.stringLink_spec hownY wY
  rcases hres with hop | ⟨a, hr⟩
  · obtain ⟨a, T', X', hS', ⟨kk', hkk, hrr⟩, hb, -, hint, ⟨units, htext, hin⟩, st⟩ := Y.ldcColdF (fun b cl q => by rw [← yh]; exact q) hx (own := own) hownY wY (fun d hd => by
      have q := wS d hd
      simp only [Bundle.stringAtoms, List.mem_cons, List.not_mem_nil, or_false] at hd
      rcases hd with rfl | rfl | rfl | rfl | rfl | rfl | rfl
      · exact mv hZY q
      · exact mv hZY q
      · exact mvA hZY q
      · exact mv hZY q
      · exact mv hZY q
      · exact mv hZY q
      · exact mv hZY q) hB (fun units hu => Jvm.ClassFile.lat_of_text hu ht.1) (g := mkF m pc L S) rfl hd hn hbig (by simp [lowR]; omega) (by simp [lowR]; omega)
    have E : Ext T.heap T'.heap := ext_of hb
    have hW : T.Warmed39 T'.vm := w39_to yv hS'.1
    have hBk : T.Booked T'.vm T'.heap.size := fun j q hj hq => by
      have r := hS'.2 j q (by rw [yv]; exact hj) hq
      rw [yh] at r; exact r
    have ey : (Y0.setVm T'.vm).setVm T.vm = Y0 := by rw [← yv]; rfl
    have hsame : T.sameButNew (T'.setVm T.vm) [] 2 (n + 4) := by
      obtain ⟨e1, q2, q3, q4, q5, q6⟩ := X'.same.setVm T.vm
      rw [ey] at e1 q2 q3 q4 q5 q6
      rw [yf] at e1
      rw [yh] at q2 q3 q4 q5 q6
      rw [yu] at q4
      exact ⟨e1, q2, by simpa using q3, q4, by simpa using q5, q6⟩
    obtain ⟨X2, S2⟩ := X.movedW X'.here X'.tail (X'.limits.trans Y.limits.symm) (X'.bytes.trans Y.bytes.symm) hW hBk hsame
    rw [List.append_nil] at X2
    have hZ' : Z.Warmed39 T'.vm := State.Warmed39.trans hZT hW
    have hSl : SlOf (hst Z T'.vm T'.heap) a units := sl_of (sl_in hin) rfl rfl
    have hWh : (hst Z T.vm T.heap).Warmed39 T'.vm := w39_to (A := T) rfl hW
    have H' : HB Z cs T'.vm T'.heap := HT.step W hZT hWh (Keep.of_ext E) Oth.nil fun u x hf => by
      rcases hint with e1 | ⟨u0, a', hu0, e1⟩
      · rw [e1] at hf; exact Or.inl hf
      · cases ho : T.vm.interned.find? (fun p => p.1 == u) with
        | some pr => rw [e1, Array.find?_push, ho] at hf; exact Or.inl (by simpa using hf)
        | none =>
          have hf' := hf
          rw [e1, Array.find?_push, ho] at hf
          have e2 : u0 = u ∧ a' = x := by
            by_cases q : (u0 == u) = true
            · simp [q] at hf; exact hf
            · simp [q] at hf
          obtain ⟨rfl, rfl⟩ := e2
          obtain rfl : u0 = units := lat_inj ht.1 hu0 htext
          right
          obtain ⟨k1, cf1, i1, us, n1, -, -, -, -, n5, n6⟩ := entry_now (U := Y0) rfl hS'.1 hownY wY hkk
          cases g1.symm.trans n1
          obtain rfl : us = u0 := lat_inj ht.1 n5 htext
          rcases n6 with n6 | ⟨-, x, n6, n7⟩
          · rw [n6, hop] at hrr; cases hrr
          · rw [hf'] at n7
            have e7 : x = a := by simpa using n6.symm.trans hrr
            have e8 : a' = x := by simpa using n7
            rw [e8, e7]; exact hSl
    refine (kk a T' X2 (hS.trans S2 (Nat.le_trans (eT ▸ hk) E.1)) hZ' ?_ (eT ▸ E) H' (str_of hZ' htext ht hSl)).of st
    rw [S2.1.alike.findClass]; exact hown
  · have Lt : Jvm.RoadKit.Lit Y0 own index a := by simp [Jvm.RoadKit.Lit, State.resolvedAt?, hownY, g1, hr]
    have st := ldcR Y hx (State.Warmed39.refl Y0) hownY (refOfLit wY Lt) Lt (g := mkF m pc L S) rfl hd
    have hSl : SlOf (hst Z T.vm T.heap) a units0 := sl_of (hB _ k cf i units0 a hownY g1 g2 g3 g4 (Or.inl hr)) yv yh
    refine (kk a T ((X.mono (by omega) (by omega)).retabled X.warmed.wide) (hS.trans (X.warmed.since _) (eT ▸ hk)) hZT hownT (eT ▸ ⟨Nat.le_refl _, fun _ _ q => q⟩) HT (str_of hZT g6 ht hSl)).of st
/-! callees that may intern -/
def PostW (s : State) (C D : Nat) (Q : Option Value → Heap → Vm → List Loc → Prop) : State → Outcome → Prop := fun t o => ∃ v L, o = .returned v ∧ Q v t.heap t.vm L ∧ ReturnedEndW s o t L C D
abbrev MetW (l : Launch) (Z : State) (cs : List (String × Nat × String)) (y : MethodName) (ws : List Jvm.Cond) (rm : Room) (as' : Array Value) (h : Heap) (Q : Option Value → Heap → Vm → List Loc → Prop) : Prop :=
  MetFree l y (head1 ws rm) (fun a U => a = as' ∧ Z.Warmed39 U.vm ∧ U.heap = h ∧ HB Z cs U.vm h) (fun _ _ _ _ _ => True) (fun _ U o U' => PostW U rm.cells rm.slots Q U' o)
theorem backOfW {y : MethodName} {bytes : ByteArray} {maxL : Nat} {ret : Option FieldType} {rm : Room} {len W : Nat} {as' : Array Value} {Q : Option Value → Heap → Vm → List Loc → Prop}
    (hM : MetW l Z cs y [Cond.code y bytes maxL ret] rm as' h Q) (hZ : Z.Warmed39 s.vm) (wc : (Cond.code y bytes maxL ret).before a0 Z = true) (wz : (Cond.initialized y.cls).before a0 Z = true) (hf : rm.frames + 1 ≤ R.frames) (hl : W + (maxL + 11) + rm.locals ≤ R.locals) :
    BackS l R p e below s args y len W (fun A a => a = as' ∧ A.U.heap = h ∧ HB Z cs A.U.vm h ∧ A.cells + rm.cells ≤ R.cells ∧ A.slots + rm.slots ≤ R.slots)
      (fun A _ v B => ∃ L, Q v B.U.heap B.U.vm L ∧ B.locs = A.locs ++ L ∧ B.cells = A.cells + rm.cells ∧ B.slots = A.slots + rm.slots) :=
  BackS.of_freeW (bytes := bytes) (maxL := maxL) (ret := ret) (E := fun _ _ o t L k n => k = rm.cells ∧ n = rm.slots ∧ ∃ v, o = .returned v ∧ Q v t.heap t.vm L) hM hf hl
    (fun m meth c A a Y hp => have hU : Z.Warmed39 A.U.vm := wtrans hZ Y.warmed
      ⟨by show (Cond.and _ .tt).before a A.U = true; rw [Cond.before_and, mv hU wc]; rfl, mv hU wc, mv hU wz, hp.2.2.2.1, hp.2.2.2.2⟩)
    (fun m meth c A a g mk Y hp => ⟨hp.1, wtrans hZ Y.warmed, hp.2.1, hp.2.2.1⟩) (fun _ _ _ _ _ _ _ _ _ => trivial)
    (fun _ _ _ _ ⟨v, L, h1, h2, h3⟩ => ⟨L, _, _, h3, rfl, rfl, v, h1, h2⟩)
    (fun m meth c A a g mk v t L k n Y hp _ _ ⟨e1, e2, v', e3, e4⟩ => by cases e3; subst e1 e2; exact ⟨L, e4, rfl, rfl, rfl⟩)
theorem eCallSW (X : Stand p l e R (s.setVm vm0) m args below meth c T locs cells slots) (hx : p.tables.exec = Jvm.exec) (hZ : Z.Warmed39 vm0) {own : String} {index : Nat} {y : MethodName} {bytes : ByteArray} {maxL : Nat} {ret : Option FieldType} (hown : vm0.findClass own = some m.cls) (w1 : (Cond.methodLink own index y).before a0 Z = true) (w2 : (Cond.static y).before a0 Z = true) (w3 : (Cond.initialized y.cls).before a0 Z = true) (w4 : (Cond.code y bytes maxL ret).before a0 Z = true) (hy : y.cls ≠ "java/lang/invoke/MethodHandle" ∧ y.cls ≠ "java/lang/invoke/VarHandle") (WL : Lnk Z a0 cs) (eT : T.heap = h) {k0 : Nat} (hS : s.Since vm0 k0) (hk : k0 ≤ h.size) (H : HB Z cs vm0 h) {rm : Room} {Q : Option Value → Heap → Vm → List Loc → Prop} {argsL rest : List Value} (hM : MetW l Z cs y [Cond.code y bytes maxL ret] rm argsL.toArray h Q) (hlen : ∀ sig, parseMethodDescriptor y.desc = some sig → argsL.length = sig.parameters.length) (hSt : S = argsL.reverse ++ rest) (hsize : L.size = c.maxLocals) (W : Nat) (hW : 2 * 0 + (rest.map fun v => v.category).sum ≤ W) (hf : rm.frames + 1 ≤ R.frames) (hl : W + (maxL + 11) + rm.locals ≤ R.locals) (hc : cells + rm.cells ≤ R.cells) (hs : slots + rm.slots ≤ R.slots) (hd : decode c.code pc = .ok (.invokestatic index, 3)) (hp : pc + 3 = pc')
    (kk : ∀ v T' L', Q v T'.heap T'.vm L' → Stand p l e R (s.setVm T'.vm) m args below meth c T' (locs ++ L') (cells + rm.cells) (slots + rm.slots) → s.Since T'.vm T'.heap.size → Z.Warmed39 T'.vm → T'.vm.findClass own = some m.cls → Ends p e below P T' m pc' L (v.toList ++ rest)) : Ends p e below P T m pc L S := by
  subst hp hSt
  obtain ⟨v, _, ⟨T1, L1, k1, n1⟩, -, X1, S1, G1, ⟨Lc, hQ, l1, y1, z1⟩, st⟩ := callSS X hx (y := y) hown (mvT hZ w1) (mvT hZ w2) (mvT hZ w3) (mvT hZ w4) hy (backOfW (s := s.setVm vm0) (W := W) (Q := Q) hM hZ w4 w3 hf hl) (g := mkF m pc L (argsL.reverse ++ rest)) rfl hsize (argsL := argsL) (rest := rest) hlen rfl hW hd (fun vm1 w => ⟨rfl, eT, H.warm WL hZ w, hc, hs⟩)
  dsimp only [Pt.U, Pt.locs, Pt.cells, Pt.slots] at X1 l1 y1 z1 st hQ S1 G1
  subst l1 y1 z1
  obtain ⟨X2, S2, Z2, o2⟩ := rebS hS (eT ▸ hk) X1 S1 G1 hZ hown
  exact (kk v T1 Lc hQ X2 S2 Z2 o2).of (fun t k => st.trans k)
theorem eCallIW (X : Stand p l e R (s.setVm vm0) m args below meth c T locs cells slots) (hx : p.tables.exec = Jvm.exec) (hZ : Z.Warmed39 vm0) {own : String} {index : Nat} {y : MethodName} {bytes : ByteArray} {maxL : Nat} (hy1 : y.name = "<init>") (hown : vm0.findClass own = some m.cls) (w1 : (Cond.methodLink own index y).before a0 Z = true) (w2 : (Cond.instanceMethod y).before a0 Z = true) (w3 : (Cond.initialized y.cls).before a0 Z = true) (w4 : (Cond.code y bytes maxL none).before a0 Z = true) (hy : y.cls ≠ "java/lang/invoke/MethodHandle" ∧ y.cls ≠ "java/lang/invoke/VarHandle") (WL : Lnk Z a0 cs) (eT : T.heap = h) {k0 : Nat} (hS : s.Since vm0 k0) (hk : k0 ≤ h.size) (H : HB Z cs vm0 h) {rm : Room} {Q : Option Value → Heap → Vm → List Loc → Prop} {argsL rest : List Value} (hM : MetW l Z cs y [Cond.code y bytes maxL none] rm (.ref a :: argsL).toArray h Q) (hlen : ∀ sig, parseMethodDescriptor y.desc = some sig → argsL.length = sig.parameters.length) (hSt : S = argsL.reverse ++ .ref a :: rest) (hsize : L.size = c.maxLocals) (W : Nat) (hW : 2 * 0 + (rest.map fun v => v.category).sum ≤ W) (hf : rm.frames + 1 ≤ R.frames) (hl : W + (maxL + 11) + rm.locals ≤ R.locals) (hc : cells + rm.cells ≤ R.cells) (hs : slots + rm.slots ≤ R.slots) (hd : decode c.code pc = .ok (.invokespecial index, 3)) (hp : pc + 3 = pc')
    (kk : ∀ v T' L', Q v T'.heap T'.vm L' → Stand p l e R (s.setVm T'.vm) m args below meth c T' (locs ++ L') (cells + rm.cells) (slots + rm.slots) → s.Since T'.vm T'.heap.size → Z.Warmed39 T'.vm → T'.vm.findClass own = some m.cls → Ends p e below P T' m pc' L (v.toList ++ rest)) : Ends p e below P T m pc L S := by
  subst hp hSt
  obtain ⟨v, _, ⟨T1, L1, k1, n1⟩, -, X1, S1, G1, ⟨Lc, hQ, l1, y1, z1⟩, st⟩ := X.specialBackS hx (y := y) hy1 hown (mvT hZ w1) (mvT hZ w2) (mvT hZ w4) hy (backOfW (s := s.setVm vm0) (W := W) (Q := Q) hM hZ w4 w3 hf hl) (g := mkF m pc L (argsL.reverse ++ .ref a :: rest)) rfl hsize (Steps.refl _) (a := a) (argsL := argsL) (rest := rest) hlen rfl hW hd (fun vm1 w => ⟨rfl, eT, H.warm WL hZ w, hc, hs⟩)
  dsimp only [Pt.U, Pt.locs, Pt.cells, Pt.slots] at X1 l1 y1 z1 st hQ S1 G1
  subst l1 y1 z1
  obtain ⟨X2, S2, Z2, o2⟩ := rebS hS (eT ▸ hk) X1 S1 G1 hZ hown
  exact (kk v T1 Lc hQ X2 S2 Z2 o2).of (fun t k => st.trans k)
/-! returns of such a callee -/
theorem eEndW (X : Stand p l e R (s.setVm vm0) m args below meth c T locs cells slots) {k0 : Nat} (hS : s.Since vm0 k0) (hk : k0 ≤ T.heap.size) (hlk : meth.locks = false) {C D : Nat} {Q : Option Value → Heap → Vm → List Loc → Prop} {v : Option Value} (hv : meth.sig.returnType = none → v = none) (hC : cells ≤ C) (hD : slots ≤ D) (hq : Q v T.heap T.vm locs)
    (st : ∀ fs, (∀ (f : JFrame) (acts : List Action), f.method = m → f.locked = none → f.entered = [] → (doReturn e (T.setTop f) acts v).1 = T.setFrames fs) → Steps p.tables e below (T.setTop (mkF m pc L S)) (T.setFrames fs)) : Ends p e below (PostW s C D Q) T m pc L S := by
  obtain ⟨fs, hr, hrun, hended, r1, r2, r3, r4⟩ := X.leaveW hS hk (v := v) hv hlk
  exact ⟨_, _, st fs hr, hrun, hended, v, locs, rfl, hq, r1, r2, r3, r4.mono hC hD⟩
theorem eRetAW (X : Stand p l e R (s.setVm vm0) m args below meth c T locs cells slots) (hx : p.tables.exec = Jvm.exec) {k0 : Nat} (hS : s.Since vm0 k0) (hk : k0 ≤ T.heap.size) {t : FieldType} {w : Value} (hret : meth.sig.returnType = some t) (ht : t.isReference = true) (hn : narrow t w = w) (hw : w.isRef = true) (hlk : meth.locks = false) (hd : decode c.code pc = .ok (.areturn, 1)) {C D : Nat} {Q : Option Value → Heap → Vm → List Loc → Prop} (hC : cells ≤ C) (hD : slots ≤ D) (hq : Q (some w) T.heap T.vm locs) : Ends p e below (PostW s C D Q) T m pc L (w :: S) :=
  eEndW X hS hk hlk (fun h => by rw [hret] at h; cases h) hC hD hq fun fs hr => retOut X hx hret hn (Or.inr (Or.inr (Or.inr (Or.inr ⟨rfl, ht, hw⟩)))) hd hr
theorem eRetNW (X : Stand p l e R (s.setVm vm0) m args below meth c T locs cells slots) (hx : p.tables.exec = Jvm.exec) {k0 : Nat} (hS : s.Since vm0 k0) (hk : k0 ≤ T.heap.size) {t : FieldType} {z : Int32} (hret : meth.sig.returnType = some t) (ht : t = .boolean ∨ t = .byte ∨ t = .char ∨ t = .short) (hlk : meth.locks = false) (hd : decode c.code pc = .ok (.ireturn, 1)) {C D : Nat} {Q : Option Value → Heap → Vm → List Loc → Prop} (hC : cells ≤ C) (hD : slots ≤ D) (hq : Q (some (.int (nar t z))) T.heap T.vm locs) : Ends p e below (PostW s C D Q) T m pc L (.int z :: S) :=
  eEndW X hS hk hlk (fun h => by rw [hret] at h; cases h) hC hD hq fun fs hr => retN X hx hret ht hd hr
theorem eRetVW (X : Stand p l e R (s.setVm vm0) m args below meth c T locs cells slots) (hx : p.tables.exec = Jvm.exec) {k0 : Nat} (hS : s.Since vm0 k0) (hk : k0 ≤ T.heap.size) (hret : meth.sig.returnType = none) (hlk : meth.locks = false) (hd : decode c.code pc = .ok (.return_, 1)) {C D : Nat} {Q : Option Value → Heap → Vm → List Loc → Prop} (hC : cells ≤ C) (hD : slots ≤ D) (hq : Q none T.heap T.vm locs) : Ends p e below (PostW s C D Q) T m pc L [] :=
  eEndW X hS hk hlk (fun _ => rfl) hC hD hq fun fs hr => X.returnOut hx hret hd hr
/-! bytes, arrays of references, identity, instanceof -/
theorem eBALoad (X : Stand p l e R s m args below meth c T locs cells slots) (hx : p.tables.exec = Jvm.exec) (hZ : Z.Warmed39 s.vm) {vs : List Int32} (eT : T.heap = h) (F : Ar Z h a .byte vs) {j : Int32} (v : Int32) (hv : rd vs j = v) (q : InB vs j) (hd : decode c.code pc = .ok (.baload, 1)) (hp : pc + 1 = pc') (kk : Ends p e below P T m pc' L (.int v :: S)) : Ends p e below P T m pc L (.int j :: .ref a :: S) := by
  subst hp hv
  obtain ⟨cl, A, e1, e2⟩ := F
  exact kk.of fun t k => X.baloadBytes hx (by rw [eT]; exact A.1) (State.isArrayOf_alike hZ.alike A.2.1) A.2.2 (Ar.inb e1 q) (Ar.get e1 q) (g := mkF m pc L (.int j :: .ref a :: S)) rfl rfl hd _ k
theorem eBAStore (X : Stand p l e R s m args below meth c T locs cells slots) (hx : p.tables.exec = Jvm.exec) (hZ : Z.Warmed39 s.vm) {vs : List Int32} (eT : T.heap = h) (F : Ar Z h a .byte vs) {j x : Int32} (q : InB vs j) (hd : decode c.code pc = .ok (.bastore, 1)) (hp : pc + 1 = pc')
    (kk : ∀ T' h', Stand p l e R s m args below meth c T' (locs ++ [⟨a, j.toNatClampNeg⟩]) cells slots → T'.heap = h' → Wr h h' a j.toNatClampNeg (.int (nar .byte x)) → Ar Z h' a .byte (wr vs j (nar .byte x)) → Ends p e below P T' m pc' L S) : Ends p e below P T m pc L (.int x :: .int j :: .ref a :: S) := by
  subst hp
  have F0 := F
  obtain ⟨cl, A, e1, e2⟩ := F
  obtain ⟨T', h', X', e', W, st⟩ := stB X hx hZ eT A (Ar.inb e1 q) (g := mkF m pc L (.int x :: .int j :: .ref a :: S)) rfl rfl hd
  exact (kk T' h' X' e' W (F0.same W)).of st
/-- an array of Strings: its list of values -/
def RA (Z : State) (h : Heap) (a : Addr) (vs : List Value) : Prop := ∃ cl : Cell, Arr Z h a cl (.object "java/lang/String") ∧ Ovr Z cl.cls "java/lang/String" ∧ cl.slots = vs.toArray ∧ vs.length < 2 ^ 31
theorem RA.keep {vs : List Value} (F : RA Z h a vs) (K : Keep h h' ws) (q : a ∉ ws) : RA Z h' a vs := by obtain ⟨cl, A, r⟩ := F; exact ⟨cl, ⟨K.2.1 a cl A.1 q, A.2⟩, r⟩
theorem RA.lt {vs : List Value} (F : RA Z h a vs) : a < h.size := by obtain ⟨cl, A, r⟩ := F; exact A.lt
theorem RA.ext {vs : List Value} (F : RA Z h a vs) (E : Ext h h') : RA Z h' a vs := by obtain ⟨cl, A, r⟩ := F; exact ⟨cl, A.ext E, r⟩
theorem RA.other {vs : List Value} {sl : Nat} {v : Value} (F : RA Z h b vs) (W : Wr h h' a sl v) (q : b ≠ a) : RA Z h' b vs := by obtain ⟨cl, A, r⟩ := F; exact ⟨cl, A.other W q, r⟩
def InR (vs : List Value) (j : Int32) : Prop := ¬ j < 0 ∧ j.toNatClampNeg < vs.length
theorem RA.inb {vs : List Value} {cl : Cell} {j : Int32} (e1 : cl.slots = vs.toArray) (q : InR vs j) : ¬ (j < 0 ∨ cl.slots.size ≤ j.toNatClampNeg) := by
  rw [e1]; simp only [List.size_toArray]
  exact fun z => z.elim q.1 (fun y => by have := q.2; omega)
theorem eRLen (X : Stand p l e R s m args below meth c T locs cells slots) (hx : p.tables.exec = Jvm.exec) (hZ : Z.Warmed39 s.vm) {vs : List Value} (eT : T.heap = h) (F : RA Z h a vs) (n : Int32) (hn : Int32.ofNat vs.length = n) (hd : decode c.code pc = .ok (.arraylength, 1)) (hp : pc + 1 = pc') (kk : Ends p e below P T m pc' L (.int n :: S)) : Ends p e below P T m pc L (.ref a :: S) := by
  subst hp hn
  obtain ⟨cl, A, O, e1, e2⟩ := F
  refine kk.of fun t k => X.arraylength hx (by rw [eT]; exact A.1) (State.isArrayOf_alike hZ.alike A.2.1) (g := mkF m pc L (.ref a :: S)) rfl rfl hd _ ?_
  rw [e1]; simp only [List.size_toArray]; exact k
theorem eAAStore (X : Stand p l e R s m args below meth c T locs cells slots) (hx : p.tables.exec = Jvm.exec) (hZ : Z.Warmed39 s.vm) {vs : List Value} (eT : T.heap = h) (F : RA Z h a vs) {j : Int32} {v : Value} (hv : v = .null ∨ ∃ y, v = .ref y ∧ Exa Z h y "java/lang/String") (q : InR vs j) (hd : decode c.code pc = .ok (.aastore, 1)) (hp : pc + 1 = pc')
    (kk : ∀ T' h', Stand p l e R s m args below meth c T' (locs ++ [⟨a, j.toNatClampNeg⟩]) cells slots → T'.heap = h' → Wr h h' a j.toNatClampNeg v → RA Z h' a (vs.set j.toNatClampNeg v) → Ends p e below P T' m pc' L S) : Ends p e below P T m pc L (v :: .int j :: .ref a :: S) := by
  subst hp
  obtain ⟨cl, A, O, e1, e2⟩ := F
  have so : Sto Z h a v := by
    rcases hv with rfl | ⟨y, rfl, E⟩
    · exact Or.inl rfl
    · exact Sto.of A O (Ins.self E)
  obtain ⟨T', h', X', e', W, st⟩ := stR X hx hZ eT A (RA.inb e1 q) rfl so (g := mkF m pc L (v :: .int j :: .ref a :: S)) rfl rfl hd
  refine (kk T' h' X' e' W ⟨_, A.same W, O, ?_, by simpa using e2⟩).of st
  show cl.slots.setIfInBounds _ _ = _
  rw [e1]; simp
theorem eAALoad (X : Stand p l e R s m args below meth c T locs cells slots) (hx : p.tables.exec = Jvm.exec) (hZ : Z.Warmed39 s.vm) {vs : List Value} (eT : T.heap = h) (F : RA Z h a vs) {j : Int32} (v : Value) (hv : vs[j.toNatClampNeg]? = some v) (hr : v.isRef = true) (q : ¬ j < 0) (hd : decode c.code pc = .ok (.aaload, 1)) (hp : pc + 1 = pc') (kk : Ends p e below P T m pc' L (v :: S)) : Ends p e below P T m pc L (.int j :: .ref a :: S) := by
  subst hp
  obtain ⟨cl, A, O, e1, e2⟩ := F
  have hi : InR vs j := ⟨q, (List.getElem?_eq_some_iff.mp hv).1⟩
  exact kk.of fun t k => X.aaload hx (by rw [eT]; exact A.1) (State.isArrayOf_alike hZ.alike A.2.1) rfl A.2.2 (RA.inb e1 hi) (by rw [e1]; simpa using hv) (g := mkF m pc L (.int j :: .ref a :: S)) rfl rfl hd _ k
theorem eANewA (X : Stand p l e R s m args below meth c T locs cells slots) (hx : p.tables.exec = Jvm.exec) (hZ : Z.Warmed39 s.vm) {own : String} {index : Nat} (hown : s.vm.findClass own = some m.cls) (w1 : (Cond.classLink own index "java/lang/String").before a0 Z = true) (w2 : (Cond.arrayOver (.object "java/lang/String")).before a0 Z = true) (eT : T.heap = h) (hd : decode c.code pc = .ok (.anewarray index, 3)) {n : Int32} (hn : ¬ n < 0) {cap : Nat} (hcap : n.toNatClampNeg ≤ cap) (hb : cap * 8 ≤ 536870912) (hc : cells + 1 ≤ R.cells) (hl : slots + cap ≤ R.slots) (hp : pc + 3 = pc')
    (kk : ∀ T' h' a, a = h.size → Stand p l e R s m args below meth c T' locs (cells + 1) (slots + cap) → T'.heap = h' → Ext h h' → RA Z h' a (List.replicate n.toNatClampNeg .null) → Exa Z h' a "[Ljava/lang/String;" → Ends p e below P T' m pc' L (.ref a :: S)) : Ends p e below P T m pc L (.int n :: S) := by
  subst hp
  obtain ⟨T', h', cA, X', e', E, A, Ex, O, st⟩ := newRE X hx hZ hown w1 w2 eT (g := mkF m pc L (.int n :: S)) rfl hd rfl hn hcap hb hc hl (ad := "[Ljava/lang/String;") (by decide)
  refine (kk T' h' _ rfl X' e' E ⟨_, A, O, ?_, by simpa using (back32 hn).2⟩ Ex).of st
  show Array.replicate n.toNatClampNeg (defaultValue (.object "java/lang/String")) = _
  simp [defaultValue]
theorem eAcmpY (X : Stand p l e R s m args below meth c T locs cells slots) (hx : p.tables.exec = Jvm.exec) {x y : Addr} {o : Int} (hne : x ≠ y) (hd : decode c.code pc = .ok (.if_acmp .ne o, 3)) (ho : 0 ≤ (pc : Int) + o) (hp : ((pc : Int) + o).toNat = pc') (kk : Ends p e below P T m pc' L S) : Ends p e below P T m pc L (.ref y :: .ref x :: S) :=
  kk.of fun t h => XT.acmpYes X.here hx rfl rfl hd rfl rfl rfl (by simp [XT.acmp, hne]) ho hp h
theorem eAcmpN (X : Stand p l e R s m args below meth c T locs cells slots) (hx : p.tables.exec = Jvm.exec) {x : Addr} {o : Int} (hd : decode c.code pc = .ok (.if_acmp .ne o, 3)) (hp : pc + 3 = pc') (kk : Ends p e below P T m pc' L S) : Ends p e below P T m pc L (.ref x :: .ref x :: S) := by
  subst hp; exact kk.of fun t h => XT.acmpNo X.here hx rfl hd rfl rfl rfl (by simp [XT.acmp]) h
theorem eInst (X : Stand p l e R s m args below meth c T locs cells slots) (hx : p.tables.exec = Jvm.exec) (hZ : Z.Warmed39 s.vm) {own K : String} {index : Nat} (hown : s.vm.findClass own = some m.cls) (w : (Cond.classLink own index K).before a0 Z = true) (eT : T.heap = h) (F : Ins Z h a K true) (hd : decode c.code pc = .ok (.instanceof index, 3)) (hp : pc + 3 = pc')
    (kk : ∀ T', Stand p l e R s m args below meth c T' locs cells slots → T'.heap = h → Ends p e below P T' m pc' L (.int 1 :: S)) : Ends p e below P T m pc L (.ref a :: S) := by
  subst hp
  obtain ⟨T', X', e', st⟩ := instY X hx hZ hown w eT F (g := mkF m pc L (.ref a :: S)) rfl rfl hd
  exact (kk T' X' e').of st
end Wide

/-! this law's own facts -/
def own_cs : List (String × Nat × String) := [("com/example/shapelint/shapelint/reader/NamespacesClosePinLaw", 7, ""), ("com/example/shapelint/shapelint/reader/NamespacesClosePinLaw", 9, "xml"), ("com/example/shapelint/shapelint/reader/NamespacesClosePinLaw", 21, "http://www.w3.org/XML/1998/namespace"), ("com/example/shapelint/shapelint/reader/Namespaces", 24, "xml"), ("com/example/shapelint/shapelint/reader/Namespaces", 26, "http://www.w3.org/XML/1998/namespace"), ("com/example/shapelint/shapelint/reader/Namespaces", 32, "")]
def bXml : List Int32 := "xml".toList.map (fun c => Jvm.Lit.byteI c.toNat.toUInt16)
def bUri : List Int32 := "http://www.w3.org/XML/1998/namespace".toList.map (fun c => Jvm.Lit.byteI c.toNat.toUInt16)
theorem own_tx_0 : (∀ c ∈ "".toList, c.toNat < 256) ∧ "".toList.map (fun c => Jvm.Lit.byteI c.toNat.toUInt16) = [] := by decide
theorem own_tx_3 : (∀ c ∈ "xml".toList, c.toNat < 256) ∧ "xml".toList.map (fun c => Jvm.Lit.byteI c.toNat.toUInt16) = bXml := ⟨by decide, rfl⟩
theorem own_tx_36 : (∀ c ∈ "http://www.w3.org/XML/1998/namespace".toList, c.toNat < 256) ∧ "http://www.w3.org/XML/1998/namespace".toList.map (fun c => Jvm.Lit.byteI c.toNat.toUInt16) = bUri := ⟨by decide, rfl⟩
theorem own_lnk {Z : State} {a0 : Array Value} (hw : ∀ d ∈ tables_1, d.before a0 Z = true) : Lnk Z a0 own_cs := by
  intro o i t q
  simp only [own_cs, List.mem_cons, List.not_mem_nil, or_false, Prod.mk.injEq] at q
  rcases q with ⟨rfl, rfl, rfl⟩ | ⟨rfl, rfl, rfl⟩ | ⟨rfl, rfl, rfl⟩ | ⟨rfl, rfl, rfl⟩ | ⟨rfl, rfl, rfl⟩ | ⟨rfl, rfl, rfl⟩
  · exact hw _ (List.mem_of_getElem? (i := 4) rfl)
  · exact hw _ (List.mem_of_getElem? (i := 89) rfl)
  · exact hw _ (List.mem_of_getElem? (i := 98) rfl)
  · exact hw _ (List.mem_of_getElem? (i := 49) rfl)
  · exact hw _ (List.mem_of_getElem? (i := 50) rfl)
  · exact hw _ (List.mem_of_getElem? (i := 58) rfl)
theorem own_sa {Z : State} {a0 : Array Value} (hw : ∀ d ∈ tables_1, d.before a0 Z = true) : ∀ a ∈ Bundle.stringAtoms, a.before a0 Z = true := by
  intro d hd
  simp only [Bundle.stringAtoms, List.mem_cons, List.not_mem_nil, or_false] at hd
  rcases hd with rfl | rfl | rfl | rfl | rfl | rfl | rfl
  · exact hw _ (List.mem_of_getElem? (i := 5) rfl)
  · exact hw _ (List.mem_of_getElem? (i := 6) rfl)
  · exact hw _ (List.mem_of_getElem? (i := 7) rfl)
  · exact hw _ (List.mem_of_getElem? (i := 8) rfl)
  · exact hw _ (List.mem_of_getElem? (i := 9) rfl)
  · exact hw _ (List.mem_of_getElem? (i := 10) rfl)
  · exact hw _ (List.mem_of_getElem? (i := 11) rfl)
theorem own_kx {h h' : Heap} (K : Keep h h' []) : Ext h h' := ⟨K.1, fun a c q => K.2.1 a c q (by simp)⟩
theorem own_inc {j : Int32} {i n : Nat} (hj : j.toInt = i) (hi : i < n) (hn : n < 2 ^ 31) : (j + 1).toInt = ((i + 1 : Nat) : Int) := by
  have h := c_iadd j 1
  have r := rng32 (j + 1)
  simp only [Int32.reduceToInt] at *
  omega
theorem own_dec {j : Int32} {i n : Nat} (hj : j.toInt = (i : Int)) (hi : i < n) (hn : n < 2 ^ 31) : (j + -1).toInt = (i : Int) - 1 := by
  have h := c_iadd j (-1)
  have r := rng32 (j + -1)
  have e : (-1 : Int32).toInt = -1 := by decide
  rw [e] at h
  omega
theorem own_cl {j : Int32} {i : Nat} (hj : j.toInt = i) : j.toNatClampNeg = i := by simp only [Int32.toNatClampNeg]; omega
theorem own_nn {j : Int32} {i : Nat} (hj : j.toInt = i) : ¬ j < 0 := by rw [Int32.lt_iff_toInt_lt]; simp only [Int32.reduceToInt]; omega
theorem own_inb {vs : List Int32} {j : Int32} {i : Nat} (hj : j.toInt = i) (hi : i < vs.length) : InB vs j := ⟨own_nn hj, by rw [own_cl hj]; exact hi⟩
theorem own_ofn {n : Nat} (hn : n < 2 ^ 31) : (Int32.ofNat n).toInt = n := Int32.toInt_ofNat_small hn
theorem own_ofi {n k : Nat} (hn : n < 2 ^ 31) (hk : k < 2 ^ 31) (h : Int32.ofNat n = Int32.ofNat k) : n = k := by
  have := congrArg Int32.toInt h
  rw [own_ofn hn, own_ofn hk] at this
  omega
theorem own_lext {xs ys : List Int32} (hl : xs.length = ys.length) (h : ∀ q, q < xs.length → xs[q]? = ys[q]?) : xs = ys := by
  apply List.ext_getElem?
  intro q
  by_cases c : q < xs.length
  · exact h q c
  · rw [List.getElem?_eq_none (by omega), List.getElem?_eq_none (by omega)]
theorem own_rd {vs : List Int32} {j : Int32} {i : Nat} (hj : j.toInt = i) (hi : i < vs.length) : vs[i]? = some (rd vs j) := by
  simp [rd, own_cl hj, hi]
theorem Ar.inj {Z : State} {h : Heap} {a : Addr} {ty : FieldType} {xs ys : List Int32} (F : Ar Z h a ty xs) (G : Ar Z h a ty ys) : xs = ys := by
  obtain ⟨c1, A1, e1, -⟩ := F
  obtain ⟨c2, A2, e2, -⟩ := G
  cases A1.1.symm.trans A2.1
  have := e1.symm.trans e2
  have h2 := congrArg Array.toList this
  simp only at h2
  exact List.map_inj_right (f := Value.int) (fun _ _ q => by injection q) |>.mp h2
theorem Str.inj {Z : State} {h : Heap} {a : Addr} {xs ys : List Int32} (F : Str Z h a xs) (G : Str Z h a ys) : xs = ys := by
  obtain ⟨-, -, b, F2, -, A⟩ := F
  obtain ⟨-, -, b', G2, -, A'⟩ := G
  by_cases q : b = b'
  · subst q; exact A.inj A'
  · exact absurd rfl (Fld.ne F2 G2 (fun r => q (by injection r)))
/-- null, or a String with these bytes -/
def Cont (Z : State) (h : Heap) (v : Value) (o : Option (List Int32)) : Prop := (v = .null ∧ o = none) ∨ ∃ a bs, v = .ref a ∧ Str Z h a bs ∧ o = some bs
abbrev NSC : String := "com/example/shapelint/shapelint/reader/Namespaces"
/-- the Namespaces object, its two String[] and its int[] -/
def Nsp (Z : State) (h : Heap) (ns pa ua sa : Addr) (ps us : List Value) (ss : List Int32) (cnt dep : Int32) : Prop :=
  Exa Z h ns NSC ∧ Fld Z h ns NSC "prefixes" "[Ljava/lang/String;" (.ref pa) ∧ Fld Z h ns NSC "uris" "[Ljava/lang/String;" (.ref ua) ∧ Fld Z h ns NSC "starts" "[I" (.ref sa) ∧ Fld Z h ns NSC "count" "I" (.int cnt) ∧ Fld Z h ns NSC "depth" "I" (.int dep) ∧
    RA Z h pa ps ∧ RA Z h ua us ∧ Ar Z h sa .int ss ∧ Exa Z h pa "[Ljava/lang/String;" ∧ Exa Z h ua "[Ljava/lang/String;" ∧ Exa Z h sa "[I" ∧ pa ≠ ua
section Ns
variable {Z : State} {h h' : Heap} {ns pa ua sa : Addr} {ps us ps' us' : List Value} {ss : List Int32} {cnt dep : Int32} {ws : List Addr} {cts : List (List Int32 × List Int32)}
theorem Nsp.ext (F : Nsp Z h ns pa ua sa ps us ss cnt dep) (E : Ext h h') : Nsp Z h' ns pa ua sa ps us ss cnt dep := by
  obtain ⟨f1, f2, f3, f4, f5, f6, f7, f8, f9, f10, f11, f12, f13⟩ := F
  exact ⟨f1.ext E, f2.ext E, f3.ext E, f4.ext E, f5.ext E, f6.ext E, f7.ext E, f8.ext E, f9.ext E, f10.ext E, f11.ext E, f12.ext E, f13⟩
theorem Nsp.oth (F : Nsp Z h ns pa ua sa ps us ss cnt dep) : Oth Z h [ns, pa, ua, sa] := by
  obtain ⟨f1, f2, f3, f4, f5, f6, f7, f8, f9, f10, f11, f12, f13⟩ := F
  intro w q
  simp only [List.mem_cons, List.not_mem_nil, or_false] at q
  rcases q with rfl | rfl | rfl | rfl
  · exact ⟨_, f1, by decide, by decide⟩
  · exact ⟨_, f10, by decide, by decide⟩
  · exact ⟨_, f11, by decide, by decide⟩
  · exact ⟨_, f12, by decide, by decide⟩
/-- the bound prefixes and what they are bound to -/
def Tab (Z : State) (h : Heap) (ps us : List Value) (cts : List (List Int32 × List Int32)) : Prop := ∀ i, (hi : i < cts.length) → ∃ a b, ps[i]? = some (.ref a) ∧ us[i]? = some (.ref b) ∧ Str Z h a (cts[i]).1 ∧ Str Z h b (cts[i]).2
theorem Tab.keep (F : Tab Z h ps us cts) (K : Keep h h' ws) (O : Oth Z h ws) : Tab Z h' ps us cts := fun i hi => by
  obtain ⟨a, b, h1, h2, h3, h4⟩ := F i hi
  exact ⟨a, b, h1, h2, h3.keep K O, h4.keep K O⟩
theorem Tab.agree (F : Tab Z h ps us cts) (q : ∀ i, i < cts.length → ps'[i]? = ps[i]? ∧ us'[i]? = us[i]?) : Tab Z h ps' us' cts := fun i hi => by
  obtain ⟨a, b, h1, h2, r⟩ := F i hi
  exact ⟨a, b, (q i hi).1.trans h1, (q i hi).2.trans h2, r⟩
theorem Tab.snoc {a b : Addr} {xs ys : List Int32} (F : Tab Z h ps us cts) (hp : cts.length < ps.length) (hu : cts.length < us.length) (S1 : Str Z h a xs) (S2 : Str Z h b ys) : Tab Z h (ps.set cts.length (.ref a)) (us.set cts.length (.ref b)) (cts ++ [(xs, ys)]) := fun i hi => by
  rw [List.length_append, List.length_singleton] at hi
  by_cases q : i < cts.length
  · obtain ⟨a', b', h1, h2, h3, h4⟩ := F i q
    refine ⟨a', b', ?_, ?_, ?_, ?_⟩
    · rw [List.getElem?_set_ne (by omega)]; exact h1
    · rw [List.getElem?_set_ne (by omega)]; exact h2
    · rw [List.getElem_append_left q]; exact h3
    · rw [List.getElem_append_left q]; exact h4
  · have e : i = cts.length := by omega
    subst e
    refine ⟨a, b, ?_, ?_, ?_, ?_⟩
    · simp [hp]
    · simp [hu]
    · simpa using S1
    · simpa using S2
def look (cts : List (List Int32 × List Int32)) (ys : List Int32) : Option (List Int32) := cts.foldl (fun r p => if p.1 = ys then some p.2 else r) none
theorem look_succ {ys : List Int32} {k : Nat} (hk : k < cts.length) : look (cts.take (k + 1)) ys = if (cts[k]).1 = ys then some (cts[k]).2 else look (cts.take k) ys := by
  rw [look, List.take_succ_eq_append_getElem hk, List.foldl_append]
  rfl
end Ns
theorem own_ch (p : Int32) : ¬ (255 : Int32) < ((p &&& (255 : Int32)).toUInt32.toUInt16.toUInt32.toInt32) := by
  rw [Int32.lt_iff_toInt_lt]
  have e : ((p &&& (255 : Int32)).toUInt32.toUInt16.toUInt32.toInt32).toBitVec = ((p.toBitVec &&& 255#32).setWidth 16).setWidth 32 := rfl
  show ¬ _ < ((p &&& (255 : Int32)).toUInt32.toUInt16.toUInt32.toInt32).toBitVec.toInt
  rw [e, BitVec.toInt_eq_toNat_cond]
  have h : (((p.toBitVec &&& 255#32).setWidth 16).setWidth 32).toNat ≤ 255 := by
    simp only [BitVec.toNat_setWidth, BitVec.toNat_and]
    have := @Nat.and_le_right p.toBitVec.toNat 255
    have e2 : (255#32).toNat = 255 := rfl
    rw [e2]
    omega
  simp only [Int32.reduceToInt]
  split <;> omega
def own_exp (p1 : Int32) (b1 u1 q : List Int32) : Option (List Int32) := if p1 ≠ 0 ∧ q = b1 then some u1 else if q = bXml then some bUri else if q = [] then some [] else none
theorem own_et {h h' h2 : Heap} (E : Ext h h') (F : Ext h' h2) : Ext h h2 := ⟨Nat.le_trans E.1 F.1, fun a c q => F.2 a c (E.2 a c q)⟩
theorem own_er {h : Heap} : Ext h h := ⟨Nat.le_refl _, fun _ _ q => q⟩
theorem Cont.cat {Z : State} {h : Heap} {v : Value} {o : Option (List Int32)} (C : Cont Z h v o) : v.category = 1 := by rcases C with ⟨rfl, -⟩ | ⟨a, bs, rfl, -⟩ <;> rfl
theorem Cont.ext {Z : State} {h h' : Heap} {v : Value} {o : Option (List Int32)} (C : Cont Z h v o) (E : Ext h h') : Cont Z h' v o := by
  rcases C with ⟨rfl, q⟩ | ⟨a, bs, rfl, S, q⟩
  · exact Or.inl ⟨rfl, q⟩
  · exact Or.inr ⟨a, bs, rfl, S.ext E, q⟩
theorem own_ne : ¬ ([] : List Int32) = bXml := by decide
theorem own_l0 {o1 : Int32} {b6 b7 : List Int32} (h : o1 = 0) (q : List Int32) : look [(bXml, bUri), ([], [])] q = own_exp o1 b6 b7 q := by
  have e1 : ¬ (o1 ≠ 0 ∧ q = b6) := fun r => r.1 h
  simp only [look, List.foldl, own_exp, if_neg e1]
  by_cases h1 : q = []
  · subst h1; rw [if_pos rfl, if_neg own_ne, if_pos rfl]
  · rw [if_neg (Ne.symm h1)]
    by_cases h2 : q = bXml
    · subst h2; rw [if_pos rfl, if_pos rfl]
    · rw [if_neg (Ne.symm h2), if_neg h2, if_neg h1]
theorem own_l1 {o1 : Int32} {b6 b7 : List Int32} (h : ¬ o1 = 0) (q : List Int32) : look ([(bXml, bUri), ([], [])] ++ [(b6, b7)]) q = own_exp o1 b6 b7 q := by
  have e0 : look ([(bXml, bUri), ([], [])] ++ [(b6, b7)]) q = if b6 = q then some b7 else look [(bXml, bUri), ([], [])] q := by simp [look]
  rw [e0]
  by_cases h1 : b6 = q
  · rw [if_pos h1, own_exp, if_pos ⟨h, h1.symm⟩]
  · have n1 : ¬ (o1 ≠ 0 ∧ q = b6) := fun r => h1 r.2.symm
    have n2 : ¬ ((0 : Int32) ≠ 0 ∧ q = b6) := fun r => r.1 rfl
    rw [if_neg h1, own_l0 (o1 := 0) (b6 := b6) (b7 := b7) rfl]
    unfold own_exp
    rw [if_neg n1, if_neg n2]
theorem own_ss {ss : List Int32} {c2 c4 : Int32} (hss : ss.length = 16) : rd (wr (wr ss 0 c2) (0 + 1) c4) (0 + 1 + 1 - 1) = c4 ∧ InB (wr (wr ss 0 c2) (0 + 1) c4) (0 + 1 + 1 - 1) ∧ (wr ss 0 c2).length = 16 := by
  have e1 : (0 + 1 : Int32).toNatClampNeg = 1 := by decide
  have e2 : (0 + 1 + 1 - 1 : Int32).toNatClampNeg = 1 := by decide
  refine ⟨?_, ⟨by decide, ?_⟩, by simp [wr, hss]⟩
  · simp [rd, wr, e1, e2, hss]
  · simp [wr, e1, e2, hss]

theorem own_d3_0 : decode jdk_43_method_3_code 0 = .ok (.iload_n 0, 1) := by decide +kernel
theorem own_d3_1 : decode jdk_43_method_3_code 1 = .ok (.sipush 255, 3) := by decide +kernel
theorem own_d3_4 : decode jdk_43_method_3_code 4 = .ok (.if_icmp .gt 7, 3) := by decide +kernel
theorem own_d3_7 : decode jdk_43_method_3_code 7 = .ok (.iconst 1, 1) := by decide +kernel
theorem own_d3_8 : decode jdk_43_method_3_code 8 = .ok (.goto 4, 3) := by decide +kernel
theorem own_d3_12 : decode jdk_43_method_3_code 12 = .ok (.ireturn, 1) := by decide +kernel
theorem own_pn0 : plainName "java/lang/StringLatin1" = true := by first | (simp [plainName, overriddenIn]; done) | decide +kernel
def RM3 : Room := { frames := 0, cells := 0, slots := 0, locals := 0 }
theorem own_ef3 (m : MethodId) (p1 : Int32) : entryFrame m #[(.int p1)] 1 = mkF m 0 #[.val (.int p1)] [] := by first | (simp [entryFrame, mkF, argsToLocals, Value.category]; done) | rfl
set_option maxRecDepth 65536 in
set_option maxHeartbeats 40000000 in
theorem rm3 (l : Launch) (Z : State) (a0 : Array Value) (hw : ∀ d ∈ tables_1, d.before a0 Z = true) (ws : List Jvm.Cond) (p1 : Int32) (h0 : Heap) (n0 : Nat) (Z0 : n0 ≤ h0.size) (hp : ¬ (255 : Int32) < p1) : MetQ l Z (⟨"java/lang/StringLatin1", "canEncode", "(C)Z"⟩ : MethodName) (Jvm.Cond.code (⟨"java/lang/StringLatin1", "canEncode", "(C)Z"⟩ : MethodName) jdk_43_method_3_code 1 (some .boolean) :: ws) RM3 #[(.int p1)] h0 (fun v h L => Fr n0 L ∧ h = h0 ∧ v = some (.int 1)) := by
  refine MetFree.of_bodySF (plainFor_of_name own_pn0) hisR ?_
  intro p e s m args below meth c s₁ Bd hml0 hP hK
  obtain ⟨rfl, hZ, hh⟩ := hP
  have hx := Bd.exec
  have hby := Bd.bytes
  have hml : c.maxLocals = 1 := hml0
  have hown : s.vm.findClass "java/lang/StringLatin1" = some m.cls := findClass_of_methodNamed Bd.named
  have hnm := (name_of_methodNamed Bd.named Bd.method).1
  have hlk : meth.locks = false := BodyLoose.notSynchronized Bd
  have X0 : Stand p l e RM3 s m #[(.int p1)] below meth c s₁ [] 0 0 := Stand.of_body Bd
  have e0 : s₁.heap = h0 := by rw [← hh, Bd.state]; rfl
  have N0 := Fr.nil n0
  suffices kk : Ends p e below (PostQ s 0 0 (fun v h L => Fr n0 L ∧ h = h0 ∧ v = some (.int 1))) s₁ m 0 #[.val (.int p1)] [] by
    obtain ⟨t, o, k1, k2, k3, k4⟩ := kk
    exact ⟨t, o, castTop (own_ef3 m p1) k1, k2, k3, k4⟩
  refine eILoadN X0 hx (hb hby own_d3_0) rfl rfl ?_
  refine eSipush X0 hx (255 : Int32) (hb hby own_d3_1) rfl rfl ?_
  refine eIcmpN X0 hx (hb hby own_d3_4) (flt hp).2.2.1 rfl ?_
  refine eIConst X0 hx (1 : Int32) (hb hby own_d3_7) rfl rfl ?_
  refine eGoto X0 hx (hb hby own_d3_8) (by decide) (pc' := 12) rfl ?_
  exact eRetN X0 hx (t := .boolean) Bd.returns (by simp) hlk (hb hby own_d3_12) (by decide) (by decide) ⟨N0, e0, rfl⟩
theorem own_d4_0 : decode jdk_43_method_46_code 0 = .ok (.iconst 1, 1) := by decide +kernel
theorem own_d4_1 : decode jdk_43_method_46_code 1 = .ok (.newarray .byte, 2) := by decide +kernel
theorem own_d4_3 : decode jdk_43_method_46_code 3 = .ok (.dup, 1) := by decide +kernel
theorem own_d4_4 : decode jdk_43_method_46_code 4 = .ok (.iconst 0, 1) := by decide +kernel
theorem own_d4_5 : decode jdk_43_method_46_code 5 = .ok (.iload_n 0, 1) := by decide +kernel
theorem own_d4_6 : decode jdk_43_method_46_code 6 = .ok (.i2b, 1) := by decide +kernel
theorem own_d4_7 : decode jdk_43_method_46_code 7 = .ok (.bastore, 1) := by decide +kernel
theorem own_d4_8 : decode jdk_43_method_46_code 8 = .ok (.areturn, 1) := by decide +kernel
def RM4 : Room := { frames := 0, cells := 1, slots := 1, locals := 0 }
theorem own_ef4 (m : MethodId) (p1 : Int32) : entryFrame m #[(.int p1)] 1 = mkF m 0 #[.val (.int p1)] [] := by first | (simp [entryFrame, mkF, argsToLocals, Value.category]; done) | rfl
set_option maxRecDepth 65536 in
set_option maxHeartbeats 40000000 in
theorem rm4 (l : Launch) (Z : State) (a0 : Array Value) (hw : ∀ d ∈ tables_1, d.before a0 Z = true) (ws : List Jvm.Cond) (p1 : Int32) (h0 : Heap) (n0 : Nat) (Z0 : n0 ≤ h0.size)  : MetQ l Z (⟨"java/lang/StringLatin1", "toBytes", "(C)[B"⟩ : MethodName) (Jvm.Cond.code (⟨"java/lang/StringLatin1", "toBytes", "(C)[B"⟩ : MethodName) jdk_43_method_46_code 1 (some (.array .byte)) :: ws) RM4 #[(.int p1)] h0 (fun v h L => Fr n0 L ∧ Ext h0 h ∧ ∃ (b : Addr) (bs : List Int32), v = some (.ref b) ∧ Exa Z h b "[B" ∧ Ar Z h b .byte bs) := by
  refine MetFree.of_bodySF (plainFor_of_name own_pn0) hisR ?_
  intro p e s m args below meth c s₁ Bd hml0 hP hK
  obtain ⟨rfl, hZ, hh⟩ := hP
  have hx := Bd.exec
  have hby := Bd.bytes
  have hml : c.maxLocals = 1 := hml0
  have hown : s.vm.findClass "java/lang/StringLatin1" = some m.cls := findClass_of_methodNamed Bd.named
  have hnm := (name_of_methodNamed Bd.named Bd.method).1
  have hlk : meth.locks = false := BodyLoose.notSynchronized Bd
  have X0 : Stand p l e RM4 s m #[(.int p1)] below meth c s₁ [] 0 0 := Stand.of_body Bd
  have e0 : s₁.heap = h0 := by rw [← hh, Bd.state]; rfl
  have N0 := Fr.nil n0
  suffices kk : Ends p e below (PostQ s 1 1 (fun v h L => Fr n0 L ∧ Ext h0 h ∧ ∃ (b : Addr) (bs : List Int32), v = some (.ref b) ∧ Exa Z h b "[B" ∧ Ar Z h b .byte bs)) s₁ m 0 #[.val (.int p1)] [] by
    obtain ⟨t, o, k1, k2, k3, k4⟩ := kk
    exact ⟨t, o, castTop (own_ef4 m p1) k1, k2, k3, k4⟩
  refine eIConst X0 hx (1 : Int32) (hb hby own_d4_0) rfl rfl ?_
  refine eNewE X0 hx hZ rfl rfl (hw _ (List.mem_of_getElem? (i := 7) rfl)) e0 (hb hby own_d4_1) (by decide) (cap := 1) (by decide) (by decide) (by decide) (by decide) "[B" (by decide) rfl (fun T1 h1 ad g1 X1 e1 E1 A1 Q1 => ?_)
  refine eDup X1 hx (hb hby own_d4_3) rfl rfl ?_
  refine eIConst X1 hx (0 : Int32) (hb hby own_d4_4) rfl rfl ?_
  refine eILoadN X1 hx (hb hby own_d4_5) rfl rfl ?_
  refine eI2B X1 hx (hb hby own_d4_6) rfl ?_
  refine eBAStore X1 hx hZ e1 A1 (inbL (n := 1) rfl (by decide)) (hb hby own_d4_7) rfl (fun T2 h2 X2 e2 W2 A2 => ?_)
  have ge : n0 ≤ ad := Nat.le_trans Z0 (Nat.le_of_eq g1.symm)
  have N2 := Fr.snoc X2 N0 ge
  have K2 : Keep h0 h2 [] := (Keep.of_ext E1).wr W2 (Or.inr (Nat.le_of_eq g1.symm))
  exact eRetA X2 hx Bd.returns rfl rfl rfl hlk (hb hby own_d4_8) (by decide) (by decide) (by rw [e2]; exact ⟨N2, own_kx K2, ad, _, rfl, Q1.wr W2, A2⟩)
theorem own_d5_0 : decode jdk_42_method_151_code 0 = .ok (.aload_n 0, 1) := by decide +kernel
theorem own_d5_1 : decode jdk_42_method_151_code 1 = .ok (.invokespecial 1, 3) := by decide +kernel
theorem own_d5_4 : decode jdk_42_method_151_code 4 = .ok (.aload_n 0, 1) := by decide +kernel
theorem own_d5_5 : decode jdk_42_method_151_code 5 = .ok (.aload_n 1, 1) := by decide +kernel
theorem own_d5_6 : decode jdk_42_method_151_code 6 = .ok (.putfield 9, 3) := by decide +kernel
theorem own_d5_9 : decode jdk_42_method_151_code 9 = .ok (.aload_n 0, 1) := by decide +kernel
theorem own_d5_10 : decode jdk_42_method_151_code 10 = .ok (.iload_n 2, 1) := by decide +kernel
theorem own_d5_11 : decode jdk_42_method_151_code 11 = .ok (.putfield 15, 3) := by decide +kernel
theorem own_d5_14 : decode jdk_42_method_151_code 14 = .ok (.return_, 1) := by decide +kernel
theorem own_pn1 : plainName "java/lang/String" = true := by first | (simp [plainName, overriddenIn]; done) | decide +kernel
def RM5 : Room := { frames := 1, cells := 0, slots := 0, locals := 12 }
theorem own_ef5 (m : MethodId) (a1 : Addr) (a2 : Addr) : entryFrame m #[(.ref a1), (.ref a2), (.int 0)] 3 = mkF m 0 #[.val (.ref a1), .val (.ref a2), .val (.int 0)] [] := by first | (simp [entryFrame, mkF, argsToLocals, Value.category]; done) | rfl
set_option maxRecDepth 65536 in
set_option maxHeartbeats 40000000 in
theorem rm5 (l : Launch) (Z : State) (a0 : Array Value) (hw : ∀ d ∈ tables_1, d.before a0 Z = true) (ws : List Jvm.Cond) (a1 a2 : Addr) (h0 : Heap) (n0 : Nat) (Z0 : n0 ≤ h0.size) (E1 : Exa Z h0 a1 "java/lang/String") (FV : Fld Z h0 a1 "java/lang/String" "value" "[B" .null) (FC : Fld Z h0 a1 "java/lang/String" "coder" "B" (.int 0)) (ge : n0 ≤ a1) : MetQ l Z (⟨"java/lang/String", "<init>", "([BB)V"⟩ : MethodName) (Jvm.Cond.code (⟨"java/lang/String", "<init>", "([BB)V"⟩ : MethodName) jdk_42_method_151_code 3 none :: ws) RM5 #[(.ref a1), (.ref a2), (.int 0)] h0 (fun v h L => Fr n0 L ∧ Keep h0 h [a1] ∧ v = none ∧ Exa Z h a1 "java/lang/String" ∧ Fld Z h a1 "java/lang/String" "coder" "B" (.int 0) ∧ Fld Z h a1 "java/lang/String" "value" "[B" (.ref a2)) := by
  refine MetFree.of_bodySF (plainFor_of_name own_pn1) hisR ?_
  intro p e s m args below meth c s₁ Bd hml0 hP hK
  obtain ⟨rfl, hZ, hh⟩ := hP
  have hx := Bd.exec
  have hby := Bd.bytes
  have hml : c.maxLocals = 3 := hml0
  have hown : s.vm.findClass "java/lang/String" = some m.cls := findClass_of_methodNamed Bd.named
  have hnm := (name_of_methodNamed Bd.named Bd.method).1
  have hlk : meth.locks = false := BodyLoose.notSynchronized Bd
  have X0 : Stand p l e RM5 s m #[(.ref a1), (.ref a2), (.int 0)] below meth c s₁ [] 0 0 := Stand.of_body Bd
  have e0 : s₁.heap = h0 := by rw [← hh, Bd.state]; rfl
  have N0 := Fr.nil n0
  suffices kk : Ends p e below (PostQ s 0 0 (fun v h L => Fr n0 L ∧ Keep h0 h [a1] ∧ v = none ∧ Exa Z h a1 "java/lang/String" ∧ Fld Z h a1 "java/lang/String" "coder" "B" (.int 0) ∧ Fld Z h a1 "java/lang/String" "value" "[B" (.ref a2))) s₁ m 0 #[.val (.ref a1), .val (.ref a2), .val (.int 0)] [] by
    obtain ⟨t, o, k1, k2, k3, k4⟩ := kk
    exact ⟨t, o, castTop (own_ef5 m a1 a2) k1, k2, k3, k4⟩
  refine eALoadN X0 hx (hb hby own_d5_0) rfl rfl rfl ?_
  refine eInitO X0 hx hZ hown (hw _ (List.mem_of_getElem? (i := 28) rfl)) (hw _ (List.mem_of_getElem? (i := 29) rfl)) (hw _ (List.mem_of_getElem? (i := 30) rfl)) e0 (by rw [hml]; rfl) (hb hby own_d5_1) (by decide) 0 (by exact Nat.le_refl _) (by decide) rfl (fun T1 X1 e1 => ?_)
  refine eALoadN X1 hx (hb hby own_d5_4) rfl rfl rfl ?_
  refine eALoadN X1 hx (hb hby own_d5_5) rfl rfl rfl ?_
  refine ePutF X1 hx hZ hown (hw _ (List.mem_of_getElem? (i := 31) rfl)) Via.refl e1 FV E1 (Or.inr ⟨(hw _ (List.mem_of_getElem? (i := 8) rfl)), rfl, hnm⟩) (hw _ (List.mem_of_getElem? (i := 6) rfl)) (ty := (.array .byte)) (by decide) rfl rfl (hb hby own_d5_6) rfl (fun T2 h2 X2 e2 W2 => ?_)
  have N2 := Fr.snoc X2 N0 ge
  have Z2 := Nat.le_trans Z0 (Keep.of_wr W2).1
  have E1 := E1.wr W2
  have FV := FV.same W2
  have FC := FC.other W2 (Or.inr (slot_ne (Or.inr (hw _ (List.mem_of_getElem? (i := 9) rfl))) (Or.inr (hw _ (List.mem_of_getElem? (i := 8) rfl))) (by decide) (t := .byte) (t' := (.array .byte)) (by decide) (by decide)))
  have K1 : Keep h0 h2 [a1] := Keep.of_wr W2
  refine eALoadN X2 hx (hb hby own_d5_9) rfl rfl rfl ?_
  refine eILoadN X2 hx (hb hby own_d5_10) rfl rfl ?_
  refine ePutF X2 hx hZ hown (hw _ (List.mem_of_getElem? (i := 32) rfl)) Via.refl e2 FC E1 (Or.inr ⟨(hw _ (List.mem_of_getElem? (i := 9) rfl)), rfl, hnm⟩) (hw _ (List.mem_of_getElem? (i := 6) rfl)) (ty := .byte) (by decide) rfl rfl (hb hby own_d5_11) rfl (fun T3 h3 X3 e3 W3 => ?_)
  have N3 := Fr.snoc X3 N2 ge
  have Z3 := Nat.le_trans Z2 (Keep.of_wr W3).1
  have E1 := E1.wr W3
  have FV := FV.other W3 (Or.inr (slot_ne (Or.inr (hw _ (List.mem_of_getElem? (i := 8) rfl))) (Or.inr (hw _ (List.mem_of_getElem? (i := 9) rfl))) (by decide) (t := (.array .byte)) (t' := .byte) (by decide) (by decide)))
  have FC := FC.same W3
  have K2 : Keep h0 h3 [a1] := K1.wr W3 (Or.inl (List.mem_of_getElem? (i := 0) rfl))
  exact eRetV X3 hx Bd.returns hlk (hb hby own_d5_14) (by decide) (by decide) (by rw [e3]; exact ⟨N3, K2, rfl, E1, FC, FV⟩)
theorem own_d2_0 : decode jdk_42_method_139_code 0 = .ok (.getstatic 38, 3) := by decide +kernel
theorem own_d2_3 : decode jdk_42_method_139_code 3 = .ok (.ifCond .eq 23, 3) := by decide +kernel
theorem own_d2_6 : decode jdk_42_method_139_code 6 = .ok (.iload_n 0, 1) := by decide +kernel
theorem own_pd0 : parseMethodDescriptor "(C)Z" = some ⟨[.char], some .boolean⟩ := by decide +kernel
theorem own_d2_7 : decode jdk_42_method_139_code 7 = .ok (.invokestatic 1015, 3) := by decide +kernel
theorem own_d2_10 : decode jdk_42_method_139_code 10 = .ok (.ifCond .eq 16, 3) := by decide +kernel
theorem own_d2_13 : decode jdk_42_method_139_code 13 = .ok (.new 10, 3) := by decide +kernel
theorem own_d2_16 : decode jdk_42_method_139_code 16 = .ok (.dup, 1) := by decide +kernel
theorem own_d2_17 : decode jdk_42_method_139_code 17 = .ok (.iload_n 0, 1) := by decide +kernel
theorem own_pd1 : parseMethodDescriptor "(C)[B" = some ⟨[.char], some (.array .byte)⟩ := by decide +kernel
theorem own_d2_18 : decode jdk_42_method_139_code 18 = .ok (.invokestatic 1018, 3) := by decide +kernel
theorem own_d2_21 : decode jdk_42_method_139_code 21 = .ok (.iconst 0, 1) := by decide +kernel
theorem own_pd2 : parseMethodDescriptor "([BB)V" = some ⟨[(.array .byte), .byte], none⟩ := by decide +kernel
theorem own_d2_22 : decode jdk_42_method_139_code 22 = .ok (.invokespecial 209, 3) := by decide +kernel
theorem own_d2_25 : decode jdk_42_method_139_code 25 = .ok (.areturn, 1) := by decide +kernel
def RM2 : Room := { frames := 2, cells := 2, slots := 5, locals := 27 }
theorem own_ef2 (m : MethodId) (p1 : Int32) : entryFrame m #[(.int p1)] 1 = mkF m 0 #[.val (.int p1)] [] := by first | (simp [entryFrame, mkF, argsToLocals, Value.category]; done) | rfl
set_option maxRecDepth 65536 in
set_option maxHeartbeats 40000000 in
theorem rm2 (l : Launch) (Z : State) (a0 : Array Value) (hw : ∀ d ∈ tables_1, d.before a0 Z = true) (ws : List Jvm.Cond) (p1 : Int32) (h0 : Heap) (n0 : Nat) (Z0 : n0 ≤ h0.size) (G : Gd Z h0) (hp : ¬ (255 : Int32) < p1) : MetQ l Z (⟨"java/lang/String", "valueOf", "(C)Ljava/lang/String;"⟩ : MethodName) (Jvm.Cond.code (⟨"java/lang/String", "valueOf", "(C)Ljava/lang/String;"⟩ : MethodName) jdk_42_method_139_code 1 (some (.object "java/lang/String")) :: ws) RM2 #[(.int p1)] h0 (fun v h L => Fr n0 L ∧ Ext h0 h ∧ ∃ (a : Addr) (bs : List Int32), v = some (.ref a) ∧ Str Z h a bs) := by
  refine MetFree.of_bodySF (plainFor_of_name own_pn1) hisR ?_
  intro p e s m args below meth c s₁ Bd hml0 hP hK
  obtain ⟨rfl, hZ, hh⟩ := hP
  have hx := Bd.exec
  have hby := Bd.bytes
  have hml : c.maxLocals = 1 := hml0
  have hown : s.vm.findClass "java/lang/String" = some m.cls := findClass_of_methodNamed Bd.named
  have hnm := (name_of_methodNamed Bd.named Bd.method).1
  have hlk : meth.locks = false := BodyLoose.notSynchronized Bd
  have X0 : Stand p l e RM2 s m #[(.int p1)] below meth c s₁ [] 0 0 := Stand.of_body Bd
  have e0 : s₁.heap = h0 := by rw [← hh, Bd.state]; rfl
  have N0 := Fr.nil n0
  suffices kk : Ends p e below (PostQ s 2 5 (fun v h L => Fr n0 L ∧ Ext h0 h ∧ ∃ (a : Addr) (bs : List Int32), v = some (.ref a) ∧ Str Z h a bs)) s₁ m 0 #[.val (.int p1)] [] by
    obtain ⟨t, o, k1, k2, k3, k4⟩ := kk
    exact ⟨t, o, castTop (own_ef2 m p1) k1, k2, k3, k4⟩
  obtain ⟨z, hz, Fz⟩ := G
  refine eGetS X0 hx hZ hown (hw _ (List.mem_of_getElem? (i := 15) rfl)) e0 Fz (hb hby own_d2_0) rfl (fun T1 X1 e1 => ?_)
  refine eIfN X1 hx (hb hby own_d2_3) ((if0 _ _).trans (feq hz).1) rfl ?_
  refine eILoadN X1 hx (hb hby own_d2_6) rfl rfl ?_
  refine eCallS X1 hx hZ (y := (⟨"java/lang/StringLatin1", "canEncode", "(C)Z"⟩ : MethodName)) hown (hw _ (List.mem_of_getElem? (i := 16) rfl)) (hw _ (List.mem_of_getElem? (i := 17) rfl)) (hw _ (List.mem_of_getElem? (i := 18) rfl)) (hw _ (List.mem_of_getElem? (i := 19) rfl)) (by decide) e1 (rm3 l Z a0 hw [] p1 h0 n0 Z0 hp) (argsL := [(.int p1)]) (rest := []) (lenOf own_pd0 rfl) rfl (by rw [hml]; rfl) 0 (by exact Nat.le_refl _) (by decide) (by decide) (by decide) (by decide) (hb hby own_d2_7) rfl (fun v2 T2 L2 q2 (X2 : Stand _ _ _ _ _ _ _ _ _ _ T2 _ 0 0)  => ?_)
  obtain ⟨N2', e2, rfl⟩ := q2
  have N2 := Fr.app N0 N2'
  show Ends p e below _ T2 m 10 #[.val (.int p1)] [(.int 1)]
  refine eIfN X2 hx (hb hby own_d2_10) ((if0 _ _).trans (feq (by decide : ¬ (1 : Int32) = 0)).1) rfl ?_
  refine eNewO X2 hx hZ hown (hw _ (List.mem_of_getElem? (i := 20) rfl)) (hw _ (List.mem_of_getElem? (i := 6) rfl)) (hw _ (List.mem_of_getElem? (i := 5) rfl)) e2 (hb hby own_d2_13) (by decide) (by decide) rfl (fun T3 h3 ad3 g3 X3 e3 E3 A3 D3 => ?_)
  have ge3 : n0 ≤ ad3 := Nat.le_trans Z0 (Nat.le_of_eq g3.symm)
  have Z3 := Nat.le_trans Z0 E3.1
  have F3_value : Fld Z h3 ad3 "java/lang/String" "value" "[B" .null := D3 (Or.inr (hw _ (List.mem_of_getElem? (i := 8) rfl))) (ty := (.array .byte)) (by decide)
  have F3_coder : Fld Z h3 ad3 "java/lang/String" "coder" "B" (.int 0) := D3 (Or.inr (hw _ (List.mem_of_getElem? (i := 9) rfl))) (ty := .byte) (by decide)
  refine eDup X3 hx (hb hby own_d2_16) rfl rfl ?_
  refine eILoadN X3 hx (hb hby own_d2_17) rfl rfl ?_
  refine eCallS X3 hx hZ (y := (⟨"java/lang/StringLatin1", "toBytes", "(C)[B"⟩ : MethodName)) hown (hw _ (List.mem_of_getElem? (i := 21) rfl)) (hw _ (List.mem_of_getElem? (i := 22) rfl)) (hw _ (List.mem_of_getElem? (i := 18) rfl)) (hw _ (List.mem_of_getElem? (i := 23) rfl)) (by decide) e3 (rm4 l Z a0 hw [] p1 h3 n0 Z3) (argsL := [(.int p1)]) (rest := [(.ref ad3), (.ref ad3)]) (lenOf own_pd1 rfl) rfl (by rw [hml]; rfl) 2 (by exact Nat.le_refl _) (by decide) (by decide) (by decide) (by decide) (hb hby own_d2_18) rfl (fun v4 T4 L4 q4 (X4 : Stand _ _ _ _ _ _ _ _ _ _ T4 _ 2 5)  => ?_)
  obtain ⟨N4', E4, b, bs, rfl, Q4, B4⟩ := q4
  have N4 := Fr.app N2 N4'
  have Z4 := Nat.le_trans Z3 E4.1
  show Ends p e below _ T4 m 21 #[.val (.int p1)] [(.ref b), (.ref ad3), (.ref ad3)]
  refine eIConst X4 hx (0 : Int32) (hb hby own_d2_21) rfl rfl ?_
  refine eCallI X4 hx hZ (y := (⟨"java/lang/String", "<init>", "([BB)V"⟩ : MethodName)) (a := ad3) rfl hown (hw _ (List.mem_of_getElem? (i := 24) rfl)) (hw _ (List.mem_of_getElem? (i := 25) rfl)) (hw _ (List.mem_of_getElem? (i := 5) rfl)) (hw _ (List.mem_of_getElem? (i := 27) rfl)) (by decide) (rfl : T4.heap = T4.heap) (rm5 l Z a0 hw [] ad3 b T4.heap n0 Z4 (A3.ext E4) (F3_value.ext E4) (F3_coder.ext E4) ge3) (argsL := [(.ref b), (.int (0 : Int32))]) (rest := [(.ref ad3)]) (lenOf own_pd2 rfl) rfl (by rw [hml]; rfl) 1 (by exact Nat.le_refl _) (by decide) (by decide) (by decide) (by decide) (hb hby own_d2_22) rfl (fun v5 T5 L5 q5 (X5 : Stand _ _ _ _ _ _ _ _ _ _ T5 _ 2 5)  => ?_)
  obtain ⟨N5', K5, rfl, R1, R2, R3⟩ := q5
  have N5 := Fr.app N4 N5'
  have nb : b ∉ [ad3] := fun q => Exa.ne (A3.ext E4) Q4 (by decide) (List.mem_singleton.mp q).symm
  have K9 : Keep h0 T5.heap [] := ((Keep.of_ext E3).ext E4).trans K5 (fun x hx => by cases List.mem_singleton.mp hx; exact Or.inr (Nat.le_of_eq g3.symm))
  show Ends p e below _ T5 m 25 #[.val (.int p1)] [(.ref ad3)]
  exact eRetA X5 hx Bd.returns rfl rfl rfl hlk (hb hby own_d2_25) (by decide) (by decide) ⟨N5, own_kx K9, ad3, bs, rfl, R1, R2, b, R3, Q4.keep K5, B4.keep K5 nb⟩
theorem own_d15_0 : decode jdk_43_method_13_code 0 = .ok (.aload_n 0, 1) := by decide +kernel
theorem own_d15_1 : decode jdk_43_method_13_code 1 = .ok (.arraylength, 1) := by decide +kernel
theorem own_d15_2 : decode jdk_43_method_13_code 2 = .ok (.aload_n 1, 1) := by decide +kernel
theorem own_d15_3 : decode jdk_43_method_13_code 3 = .ok (.arraylength, 1) := by decide +kernel
theorem own_d15_4 : decode jdk_43_method_13_code 4 = .ok (.if_icmp .ne 30, 3) := by decide +kernel
theorem own_d15_7 : decode jdk_43_method_13_code 7 = .ok (.iconst 0, 1) := by decide +kernel
theorem own_d15_8 : decode jdk_43_method_13_code 8 = .ok (.istore_n 2, 1) := by decide +kernel
theorem own_d15_9 : decode jdk_43_method_13_code 9 = .ok (.iload_n 2, 1) := by decide +kernel
theorem own_d15_10 : decode jdk_43_method_13_code 10 = .ok (.aload_n 0, 1) := by decide +kernel
theorem own_d15_11 : decode jdk_43_method_13_code 11 = .ok (.arraylength, 1) := by decide +kernel
theorem own_d15_12 : decode jdk_43_method_13_code 12 = .ok (.if_icmp .ge 20, 3) := by decide +kernel
theorem own_d15_32 : decode jdk_43_method_13_code 32 = .ok (.iconst 1, 1) := by decide +kernel
theorem own_d15_33 : decode jdk_43_method_13_code 33 = .ok (.ireturn, 1) := by decide +kernel
theorem own_d15_15 : decode jdk_43_method_13_code 15 = .ok (.aload_n 0, 1) := by decide +kernel
theorem own_d15_16 : decode jdk_43_method_13_code 16 = .ok (.iload_n 2, 1) := by decide +kernel
theorem own_d15_17 : decode jdk_43_method_13_code 17 = .ok (.baload, 1) := by decide +kernel
theorem own_d15_18 : decode jdk_43_method_13_code 18 = .ok (.aload_n 1, 1) := by decide +kernel
theorem own_d15_19 : decode jdk_43_method_13_code 19 = .ok (.iload_n 2, 1) := by decide +kernel
theorem own_d15_20 : decode jdk_43_method_13_code 20 = .ok (.baload, 1) := by decide +kernel
theorem own_d15_21 : decode jdk_43_method_13_code 21 = .ok (.if_icmp .eq 5, 3) := by decide +kernel
theorem own_d15_26 : decode jdk_43_method_13_code 26 = .ok (.iinc 2 1, 3) := by decide +kernel
theorem own_d15_29 : decode jdk_43_method_13_code 29 = .ok (.goto (-20), 3) := by decide +kernel
theorem own_d15_24 : decode jdk_43_method_13_code 24 = .ok (.iconst 0, 1) := by decide +kernel
theorem own_d15_25 : decode jdk_43_method_13_code 25 = .ok (.ireturn, 1) := by decide +kernel
theorem own_d15_34 : decode jdk_43_method_13_code 34 = .ok (.iconst 0, 1) := by decide +kernel
theorem own_d15_35 : decode jdk_43_method_13_code 35 = .ok (.ireturn, 1) := by decide +kernel
def RM15 : Room := { frames := 0, cells := 0, slots := 0, locals := 0 }
theorem own_ef15 (m : MethodId) (a1 : Addr) (a2 : Addr) : entryFrame m #[(.ref a1), (.ref a2)] 3 = mkF m 0 #[.val (.ref a1), .val (.ref a2), .unset] [] := by first | (simp [entryFrame, mkF, argsToLocals, Value.category]; done) | rfl
set_option maxRecDepth 65536 in
set_option maxHeartbeats 40000000 in
theorem rm15 (l : Launch) (Z : State) (a0 : Array Value) (hw : ∀ d ∈ tables_1, d.before a0 Z = true) (ws : List Jvm.Cond) (a1 a2 : Addr) (xs ys : List Int32) (h0 : Heap) (n0 : Nat) (Z0 : n0 ≤ h0.size) (A1 : Ar Z h0 a1 .byte xs) (A2 : Ar Z h0 a2 .byte ys) : MetQ l Z (⟨"java/lang/StringLatin1", "equals", "([B[B)Z"⟩ : MethodName) (Jvm.Cond.code (⟨"java/lang/StringLatin1", "equals", "([B[B)Z"⟩ : MethodName) jdk_43_method_13_code 3 (some .boolean) :: ws) RM15 #[(.ref a1), (.ref a2)] h0 (fun v h L => Fr n0 L ∧ h = h0 ∧ v = some (.int (if xs = ys then 1 else 0))) := by
  refine MetFree.of_bodySF (plainFor_of_name own_pn0) hisR ?_
  intro p e s m args below meth c s₁ Bd hml0 hP hK
  obtain ⟨rfl, hZ, hh⟩ := hP
  have hx := Bd.exec
  have hby := Bd.bytes
  have hml : c.maxLocals = 3 := hml0
  have hown : s.vm.findClass "java/lang/StringLatin1" = some m.cls := findClass_of_methodNamed Bd.named
  have hnm := (name_of_methodNamed Bd.named Bd.method).1
  have hlk : meth.locks = false := BodyLoose.notSynchronized Bd
  have X0 : Stand p l e RM15 s m #[(.ref a1), (.ref a2)] below meth c s₁ [] 0 0 := Stand.of_body Bd
  have e0 : s₁.heap = h0 := by rw [← hh, Bd.state]; rfl
  have N0 := Fr.nil n0
  suffices kk : Ends p e below (PostQ s 0 0 (fun v h L => Fr n0 L ∧ h = h0 ∧ v = some (.int (if xs = ys then 1 else 0)))) s₁ m 0 #[.val (.ref a1), .val (.ref a2), .unset] [] by
    obtain ⟨t, o, k1, k2, k3, k4⟩ := kk
    exact ⟨t, o, castTop (own_ef15 m a1 a2) k1, k2, k3, k4⟩
  refine eALoadN X0 hx (hb hby own_d15_0) rfl rfl rfl ?_
  refine eLen X0 hx hZ e0 A1 (Int32.ofNat xs.length) rfl (hb hby own_d15_1) rfl ?_
  refine eALoadN X0 hx (hb hby own_d15_2) rfl rfl rfl ?_
  refine eLen X0 hx hZ e0 A2 (Int32.ofNat ys.length) rfl (hb hby own_d15_3) rfl ?_
  by_cases hl : Int32.ofNat xs.length = Int32.ofNat ys.length
  · have hle : xs.length = ys.length := own_ofi A1.small A2.small hl
    refine eIcmpN X0 hx (hb hby own_d15_4) (teq hl).2 rfl ?_
    refine eIConst X0 hx (0 : Int32) (hb hby own_d15_7) rfl rfl ?_
    refine eIStoreN X0 hx (hb hby own_d15_8) (L' := #[.val (.ref a1), .val (.ref a2), .val (.int (0 : Int32))]) rfl rfl ?_
    have LP : ∀ (t i : Nat) (j : Int32), i + t = xs.length → j.toInt = i → (∀ q, q < i → xs[q]? = ys[q]?) → Ends p e below (PostQ s 0 0 (fun v h L => Fr n0 L ∧ h = h0 ∧ v = some (.int (if xs = ys then 1 else 0)))) s₁ m 9 #[.val (.ref a1), .val (.ref a2), .val (.int j)] [] := by
      intro t
      induction t with
      | zero =>
        intro i j hi hj hq
        refine eILoadN X0 hx (hb hby own_d15_9) rfl rfl ?_
        refine eALoadN X0 hx (hb hby own_d15_10) rfl rfl rfl ?_
        refine eLen X0 hx hZ e0 A1 (Int32.ofNat xs.length) rfl (hb hby own_d15_11) rfl ?_
        refine eIcmpY X0 hx (hb hby own_d15_12) (flt (by rw [Int32.lt_iff_toInt_lt, own_ofn A1.small]; omega)).2.1 (by decide) (pc' := 32) rfl ?_
        have hxy : xs = ys := own_lext hle (fun q c => hq q (by omega))
        rw [if_pos hxy]
        refine eIConst X0 hx (1 : Int32) (hb hby own_d15_32) rfl rfl ?_
        exact eRetN X0 hx (t := .boolean) Bd.returns (by simp) hlk (hb hby own_d15_33) (by decide) (by decide) ⟨N0, e0, rfl⟩
      | succ t ih =>
        intro i j hi hj hq
        refine eILoadN X0 hx (hb hby own_d15_9) rfl rfl ?_
        refine eALoadN X0 hx (hb hby own_d15_10) rfl rfl rfl ?_
        refine eLen X0 hx hZ e0 A1 (Int32.ofNat xs.length) rfl (hb hby own_d15_11) rfl ?_
        refine eIcmpN X0 hx (hb hby own_d15_12) (tlt (by rw [Int32.lt_iff_toInt_lt, own_ofn A1.small]; omega)).2.1 rfl ?_
        refine eALoadN X0 hx (hb hby own_d15_15) rfl rfl rfl ?_
        refine eILoadN X0 hx (hb hby own_d15_16) rfl rfl ?_
        refine eBALoad X0 hx hZ e0 A1 (rd xs j) rfl (own_inb hj (by omega)) (hb hby own_d15_17) rfl ?_
        refine eALoadN X0 hx (hb hby own_d15_18) rfl rfl rfl ?_
        refine eILoadN X0 hx (hb hby own_d15_19) rfl rfl ?_
        refine eBALoad X0 hx hZ e0 A2 (rd ys j) rfl (own_inb hj (by omega)) (hb hby own_d15_20) rfl ?_
        have r1 := own_rd (vs := xs) hj (by omega)
        have r2 := own_rd (vs := ys) hj (by omega)
        by_cases hr : rd xs j = rd ys j
        · skip
          refine eIcmpY X0 hx (hb hby own_d15_21) (teq hr).1 (by decide) (pc' := 26) rfl ?_
          refine eIInc X0 hx (1 : Int32) (hb hby own_d15_26) rfl rfl (L' := #[.val (.ref a1), .val (.ref a2), .val (.int (j + (1 : Int32)))]) rfl rfl ?_
          refine eGoto X0 hx (hb hby own_d15_29) (by decide) (pc' := 9) rfl ?_
          refine ih (i + 1) (j + 1) (by omega) (own_inc hj (by omega) A1.small) (fun q c => ?_)
          by_cases d : q < i
          · exact hq q d
          · have d2 : q = i := by omega
            subst d2
            rw [r1, r2, hr]
        · have hxy : ¬ xs = ys := fun q => hr (by rw [q])
          rw [if_neg hxy]
          refine eIcmpN X0 hx (hb hby own_d15_21) (feq hr).1 rfl ?_
          refine eIConst X0 hx (0 : Int32) (hb hby own_d15_24) rfl rfl ?_
          exact eRetN X0 hx (t := .boolean) Bd.returns (by simp) hlk (hb hby own_d15_25) (by decide) (by decide) ⟨N0, e0, rfl⟩
    exact LP xs.length 0 0 (by omega) rfl (fun q c => absurd c (Nat.not_lt_zero _))
  · have hxy : ¬ xs = ys := fun q => hl (by rw [q])
    rw [if_neg hxy]
    refine eIcmpY X0 hx (hb hby own_d15_4) (feq hl).2 (by decide) (pc' := 34) rfl ?_
    refine eIConst X0 hx (0 : Int32) (hb hby own_d15_34) rfl rfl ?_
    exact eRetN X0 hx (t := .boolean) Bd.returns (by simp) hlk (hb hby own_d15_35) (by decide) (by decide) ⟨N0, e0, rfl⟩
theorem own_d12_0 : decode jdk_42_method_66_code 0 = .ok (.aload_n 0, 1) := by decide +kernel
theorem own_d12_1 : decode jdk_42_method_66_code 1 = .ok (.aload_n 1, 1) := by decide +kernel
theorem own_d12_2 : decode jdk_42_method_66_code 2 = .ok (.if_acmp .ne 5, 3) := by decide +kernel
theorem own_d12_5 : decode jdk_42_method_66_code 5 = .ok (.iconst 1, 1) := by decide +kernel
theorem own_d12_6 : decode jdk_42_method_66_code 6 = .ok (.ireturn, 1) := by decide +kernel
theorem own_d12_7 : decode jdk_42_method_66_code 7 = .ok (.aload_n 1, 1) := by decide +kernel
theorem own_d12_8 : decode jdk_42_method_66_code 8 = .ok (.instanceof 10, 3) := by decide +kernel
theorem own_d12_11 : decode jdk_42_method_66_code 11 = .ok (.ifCond .eq 43, 3) := by decide +kernel
theorem own_d12_14 : decode jdk_42_method_66_code 14 = .ok (.aload_n 1, 1) := by decide +kernel
theorem own_d12_15 : decode jdk_42_method_66_code 15 = .ok (.checkcast 10, 3) := by decide +kernel
theorem own_d12_18 : decode jdk_42_method_66_code 18 = .ok (.astore_n 2, 1) := by decide +kernel
theorem own_d12_19 : decode jdk_42_method_66_code 19 = .ok (.getstatic 38, 3) := by decide +kernel
theorem own_d12_22 : decode jdk_42_method_66_code 22 = .ok (.ifCond .eq 14, 3) := by decide +kernel
theorem own_d12_25 : decode jdk_42_method_66_code 25 = .ok (.aload_n 0, 1) := by decide +kernel
theorem own_d12_26 : decode jdk_42_method_66_code 26 = .ok (.getfield 15, 3) := by decide +kernel
theorem own_d12_29 : decode jdk_42_method_66_code 29 = .ok (.aload_n 2, 1) := by decide +kernel
theorem own_d12_30 : decode jdk_42_method_66_code 30 = .ok (.getfield 15, 3) := by decide +kernel
theorem own_d12_33 : decode jdk_42_method_66_code 33 = .ok (.if_icmp .ne 21, 3) := by decide +kernel
theorem own_d12_36 : decode jdk_42_method_66_code 36 = .ok (.aload_n 0, 1) := by decide +kernel
theorem own_d12_37 : decode jdk_42_method_66_code 37 = .ok (.getfield 9, 3) := by decide +kernel
theorem own_d12_40 : decode jdk_42_method_66_code 40 = .ok (.aload_n 2, 1) := by decide +kernel
theorem own_d12_41 : decode jdk_42_method_66_code 41 = .ok (.getfield 9, 3) := by decide +kernel
theorem own_pd3 : parseMethodDescriptor "([B[B)Z" = some ⟨[(.array .byte), (.array .byte)], some .boolean⟩ := by decide +kernel
theorem own_d12_44 : decode jdk_42_method_66_code 44 = .ok (.invokestatic 541, 3) := by decide +kernel
theorem own_d12_47 : decode jdk_42_method_66_code 47 = .ok (.ifCond .eq 7, 3) := by decide +kernel
theorem own_d12_50 : decode jdk_42_method_66_code 50 = .ok (.iconst 1, 1) := by decide +kernel
theorem own_d12_51 : decode jdk_42_method_66_code 51 = .ok (.goto 4, 3) := by decide +kernel
theorem own_d12_55 : decode jdk_42_method_66_code 55 = .ok (.ireturn, 1) := by decide +kernel
theorem own_d12_54 : decode jdk_42_method_66_code 54 = .ok (.iconst 0, 1) := by decide +kernel
def RM12 : Room := { frames := 1, cells := 0, slots := 0, locals := 14 }
theorem own_ef12 (m : MethodId) (a1 : Addr) (a2 : Addr) : entryFrame m #[(.ref a1), (.ref a2)] 3 = mkF m 0 #[.val (.ref a1), .val (.ref a2), .unset] [] := by first | (simp [entryFrame, mkF, argsToLocals, Value.category]; done) | rfl
set_option maxRecDepth 65536 in
set_option maxHeartbeats 40000000 in
theorem rm12 (l : Launch) (Z : State) (a0 : Array Value) (hw : ∀ d ∈ tables_1, d.before a0 Z = true) (ws : List Jvm.Cond) (a1 a2 : Addr) (xs ys : List Int32) (h0 : Heap) (n0 : Nat) (Z0 : n0 ≤ h0.size) (G : Gd Z h0) (S1 : Str Z h0 a1 xs) (S2 : Str Z h0 a2 ys) : MetQ l Z (⟨"java/lang/String", "equals", "(Ljava/lang/Object;)Z"⟩ : MethodName) (Jvm.Cond.code (⟨"java/lang/String", "equals", "(Ljava/lang/Object;)Z"⟩ : MethodName) jdk_42_method_66_code 3 (some .boolean) :: ws) RM12 #[(.ref a1), (.ref a2)] h0 (fun v h L => Fr n0 L ∧ h = h0 ∧ v = some (.int (if xs = ys then 1 else 0))) := by
  refine MetFree.of_bodySF (plainFor_of_name own_pn1) hisR ?_
  intro p e s m args below meth c s₁ Bd hml0 hP hK
  obtain ⟨rfl, hZ, hh⟩ := hP
  have hx := Bd.exec
  have hby := Bd.bytes
  have hml : c.maxLocals = 3 := hml0
  have hown : s.vm.findClass "java/lang/String" = some m.cls := findClass_of_methodNamed Bd.named
  have hnm := (name_of_methodNamed Bd.named Bd.method).1
  have hlk : meth.locks = false := BodyLoose.notSynchronized Bd
  have X0 : Stand p l e RM12 s m #[(.ref a1), (.ref a2)] below meth c s₁ [] 0 0 := Stand.of_body Bd
  have e0 : s₁.heap = h0 := by rw [← hh, Bd.state]; rfl
  have N0 := Fr.nil n0
  suffices kk : Ends p e below (PostQ s 0 0 (fun v h L => Fr n0 L ∧ h = h0 ∧ v = some (.int (if xs = ys then 1 else 0)))) s₁ m 0 #[.val (.ref a1), .val (.ref a2), .unset] [] by
    obtain ⟨t, o, k1, k2, k3, k4⟩ := kk
    exact ⟨t, o, castTop (own_ef12 m a1 a2) k1, k2, k3, k4⟩
  obtain ⟨z, hz, Fz⟩ := G
  refine eALoadN X0 hx (hb hby own_d12_0) rfl rfl rfl ?_
  refine eALoadN X0 hx (hb hby own_d12_1) rfl rfl rfl ?_
  by_cases hq : a1 = a2
  · subst hq
    rw [if_pos (S1.inj S2)]
    refine eAcmpN X0 hx (hb hby own_d12_2) rfl ?_
    refine eIConst X0 hx (1 : Int32) (hb hby own_d12_5) rfl rfl ?_
    exact eRetN X0 hx (t := .boolean) Bd.returns (by simp) hlk (hb hby own_d12_6) (by decide) (by decide) ⟨N0, e0, rfl⟩
  · obtain ⟨E1, C1, b1, V1, -, A1⟩ := S1
    obtain ⟨E2, C2, b2, V2, -, A2⟩ := S2
    refine eAcmpY X0 hx hq (hb hby own_d12_2) (by decide) (pc' := 7) rfl ?_
    refine eALoadN X0 hx (hb hby own_d12_7) rfl rfl rfl ?_
    refine eInst X0 hx hZ hown (hw _ (List.mem_of_getElem? (i := 20) rfl)) e0 (Ins.self E2) (hb hby own_d12_8) rfl (fun T1 X1 e1 => ?_)
    refine eIfN X1 hx (hb hby own_d12_11) ((if0 _ _).trans (feq (by decide : ¬ (1 : Int32) = 0)).1) rfl ?_
    refine eALoadN X1 hx (hb hby own_d12_14) rfl rfl rfl ?_
    refine eCast X1 hx hZ hown (hw _ (List.mem_of_getElem? (i := 20) rfl)) e1 (Ins.self E2) (hb hby own_d12_15) rfl (fun T2 X2 e2 => ?_)
    refine eAStoreN X2 hx (hb hby own_d12_18) rfl (L' := #[.val (.ref a1), .val (.ref a2), .val (.ref a2)]) rfl rfl ?_
    refine eGetS X2 hx hZ hown (hw _ (List.mem_of_getElem? (i := 15) rfl)) e2 Fz (hb hby own_d12_19) rfl (fun T3 X3 e3 => ?_)
    refine eIfN X3 hx (hb hby own_d12_22) ((if0 _ _).trans (feq hz).1) rfl ?_
    refine eALoadN X3 hx (hb hby own_d12_25) rfl rfl rfl ?_
    refine eGetF X3 hx hZ hown (hw _ (List.mem_of_getElem? (i := 32) rfl)) Via.refl e3 C1 (hb hby own_d12_26) rfl (fun T4 X4 e4 => ?_)
    refine eALoadN X4 hx (hb hby own_d12_29) rfl rfl rfl ?_
    refine eGetF X4 hx hZ hown (hw _ (List.mem_of_getElem? (i := 32) rfl)) Via.refl e4 C2 (hb hby own_d12_30) rfl (fun T5 X5 e5 => ?_)
    refine eIcmpN X5 hx (hb hby own_d12_33) (teq rfl).2 rfl ?_
    refine eALoadN X5 hx (hb hby own_d12_36) rfl rfl rfl ?_
    refine eGetF X5 hx hZ hown (hw _ (List.mem_of_getElem? (i := 31) rfl)) Via.refl e5 V1 (hb hby own_d12_37) rfl (fun T6 X6 e6 => ?_)
    refine eALoadN X6 hx (hb hby own_d12_40) rfl rfl rfl ?_
    refine eGetF X6 hx hZ hown (hw _ (List.mem_of_getElem? (i := 31) rfl)) Via.refl e6 V2 (hb hby own_d12_41) rfl (fun T7 X7 e7 => ?_)
    refine eCallS X7 hx hZ (y := (⟨"java/lang/StringLatin1", "equals", "([B[B)Z"⟩ : MethodName)) hown (hw _ (List.mem_of_getElem? (i := 90) rfl)) (hw _ (List.mem_of_getElem? (i := 91) rfl)) (hw _ (List.mem_of_getElem? (i := 18) rfl)) (hw _ (List.mem_of_getElem? (i := 92) rfl)) (by decide) e7 (rm15 l Z a0 hw [] b1 b2 xs ys h0 n0 Z0 A1 A2) (argsL := [(.ref b1), (.ref b2)]) (rest := []) (lenOf own_pd3 rfl) rfl (by rw [hml]; rfl) 0 (by exact Nat.le_refl _) (by decide) (by decide) (by decide) (by decide) (hb hby own_d12_44) rfl (fun v8 T8 L8 q8 (X8 : Stand _ _ _ _ _ _ _ _ _ _ T8 _ 0 0)  => ?_)
    obtain ⟨N8', e8, rfl⟩ := q8
    have N8 := Fr.app N0 N8'
    show Ends p e below _ T8 m 47 #[.val (.ref a1), .val (.ref a2), .val (.ref a2)] [(.int (if xs = ys then 1 else 0))]
    by_cases hxy : xs = ys
    · rw [if_pos hxy]
      refine eIfN X8 hx (hb hby own_d12_47) ((if0 _ _).trans (feq (by decide : ¬ (1 : Int32) = 0)).1) rfl ?_
      refine eIConst X8 hx (1 : Int32) (hb hby own_d12_50) rfl rfl ?_
      refine eGoto X8 hx (hb hby own_d12_51) (by decide) (pc' := 55) rfl ?_
      exact eRetN X8 hx (t := .boolean) Bd.returns (by simp) hlk (hb hby own_d12_55) (by decide) (by decide) ⟨N8, e8, rfl⟩
    · rw [if_neg hxy]
      refine eIfY X8 hx (hb hby own_d12_47) ((if0 _ _).trans (teq rfl).1) (by decide) (pc' := 54) rfl ?_
      refine eIConst X8 hx (0 : Int32) (hb hby own_d12_54) rfl rfl ?_
      exact eRetN X8 hx (t := .boolean) Bd.returns (by simp) hlk (hb hby own_d12_55) (by decide) (by decide) ⟨N8, e8, rfl⟩
theorem own_d16_0 : decode jdk_42_method_55_code 0 = .ok (.aload_n 0, 1) := by decide +kernel
theorem own_d16_1 : decode jdk_42_method_55_code 1 = .ok (.getfield 9, 3) := by decide +kernel
theorem own_d16_4 : decode jdk_42_method_55_code 4 = .ok (.arraylength, 1) := by decide +kernel
theorem own_d16_5 : decode jdk_42_method_55_code 5 = .ok (.ifCond .ne 7, 3) := by decide +kernel
theorem own_d16_8 : decode jdk_42_method_55_code 8 = .ok (.iconst 1, 1) := by decide +kernel
theorem own_d16_9 : decode jdk_42_method_55_code 9 = .ok (.goto 4, 3) := by decide +kernel
theorem own_d16_13 : decode jdk_42_method_55_code 13 = .ok (.ireturn, 1) := by decide +kernel
theorem own_d16_12 : decode jdk_42_method_55_code 12 = .ok (.iconst 0, 1) := by decide +kernel
def RM16 : Room := { frames := 0, cells := 0, slots := 0, locals := 0 }
theorem own_ef16 (m : MethodId) (a1 : Addr) : entryFrame m #[(.ref a1)] 1 = mkF m 0 #[.val (.ref a1)] [] := by first | (simp [entryFrame, mkF, argsToLocals, Value.category]; done) | rfl
set_option maxRecDepth 65536 in
set_option maxHeartbeats 40000000 in
theorem rm16 (l : Launch) (Z : State) (a0 : Array Value) (hw : ∀ d ∈ tables_1, d.before a0 Z = true) (ws : List Jvm.Cond) (a1 : Addr) (xs : List Int32) (h0 : Heap) (n0 : Nat) (Z0 : n0 ≤ h0.size) (S1 : Str Z h0 a1 xs) : MetQ l Z (⟨"java/lang/String", "isEmpty", "()Z"⟩ : MethodName) (Jvm.Cond.code (⟨"java/lang/String", "isEmpty", "()Z"⟩ : MethodName) jdk_42_method_55_code 1 (some .boolean) :: ws) RM16 #[(.ref a1)] h0 (fun v h L => Fr n0 L ∧ h = h0 ∧ v = some (.int (if xs = [] then 1 else 0))) := by
  refine MetFree.of_bodySF (plainFor_of_name own_pn1) hisR ?_
  intro p e s m args below meth c s₁ Bd hml0 hP hK
  obtain ⟨rfl, hZ, hh⟩ := hP
  have hx := Bd.exec
  have hby := Bd.bytes
  have hml : c.maxLocals = 1 := hml0
  have hown : s.vm.findClass "java/lang/String" = some m.cls := findClass_of_methodNamed Bd.named
  have hnm := (name_of_methodNamed Bd.named Bd.method).1
  have hlk : meth.locks = false := BodyLoose.notSynchronized Bd
  have X0 : Stand p l e RM16 s m #[(.ref a1)] below meth c s₁ [] 0 0 := Stand.of_body Bd
  have e0 : s₁.heap = h0 := by rw [← hh, Bd.state]; rfl
  have N0 := Fr.nil n0
  suffices kk : Ends p e below (PostQ s 0 0 (fun v h L => Fr n0 L ∧ h = h0 ∧ v = some (.int (if xs = [] then 1 else 0)))) s₁ m 0 #[.val (.ref a1)] [] by
    obtain ⟨t, o, k1, k2, k3, k4⟩ := kk
    exact ⟨t, o, castTop (own_ef16 m a1) k1, k2, k3, k4⟩
  obtain ⟨E1, C1, b1, V1, -, A1⟩ := S1
  refine eALoadN X0 hx (hb hby own_d16_0) rfl rfl rfl ?_
  refine eGetF X0 hx hZ hown (hw _ (List.mem_of_getElem? (i := 31) rfl)) Via.refl e0 V1 (hb hby own_d16_1) rfl (fun T1 X1 e1 => ?_)
  refine eLen X1 hx hZ e1 A1 (Int32.ofNat xs.length) rfl (hb hby own_d16_4) rfl ?_
  by_cases hxy : xs = []
  · rw [if_pos hxy]
    refine eIfN X1 hx (hb hby own_d16_5) ((if0 _ _).trans (teq (by rw [hxy]; rfl)).2) rfl ?_
    refine eIConst X1 hx (1 : Int32) (hb hby own_d16_8) rfl rfl ?_
    refine eGoto X1 hx (hb hby own_d16_9) (by decide) (pc' := 13) rfl ?_
    exact eRetN X1 hx (t := .boolean) Bd.returns (by simp) hlk (hb hby own_d16_13) (by decide) (by decide) ⟨N0, e1, rfl⟩
  · rw [if_neg hxy]
    refine eIfY X1 hx (hb hby own_d16_5) ((if0 _ _).trans (feq (fun q => hxy (List.eq_nil_of_length_eq_zero (own_ofi A1.small (by decide) q)))).2) (by decide) (pc' := 12) rfl ?_
    refine eIConst X1 hx (0 : Int32) (hb hby own_d16_12) rfl rfl ?_
    exact eRetN X1 hx (t := .boolean) Bd.returns (by simp) hlk (hb hby own_d16_13) (by decide) (by decide) ⟨N0, e1, rfl⟩
theorem own_d14_0 : decode method_4_code 0 = .ok (.aload_n 0, 1) := by decide +kernel
theorem own_d14_1 : decode method_4_code 1 = .ok (.ifnonnull 13, 3) := by decide +kernel
theorem own_d14_4 : decode method_4_code 4 = .ok (.aload_n 1, 1) := by decide +kernel
theorem own_d14_5 : decode method_4_code 5 = .ok (.ifnonnull 7, 3) := by decide +kernel
theorem own_d14_8 : decode method_4_code 8 = .ok (.iconst 1, 1) := by decide +kernel
theorem own_d14_9 : decode method_4_code 9 = .ok (.goto 4, 3) := by decide +kernel
theorem own_d14_13 : decode method_4_code 13 = .ok (.ireturn, 1) := by decide +kernel
theorem own_pn2 : plainName "com/example/shapelint/shapelint/reader/NamespacesClosePinLaw" = true := by first | (simp [plainName, overriddenIn]; done) | decide +kernel
def RM14 : Room := { frames := 2, cells := 0, slots := 0, locals := 28 }
theorem own_ef14nn (m : MethodId)  : entryFrame m #[.null, .null] 2 = mkF m 0 #[.val .null, .val .null] [] := by first | (simp [entryFrame, mkF, argsToLocals, Value.category]; done) | rfl
set_option maxRecDepth 65536 in
set_option maxHeartbeats 40000000 in
theorem rm14nn (l : Launch) (Z : State) (a0 : Array Value) (hw : ∀ d ∈ tables_1, d.before a0 Z = true) (ws : List Jvm.Cond)  (h0 : Heap) (n0 : Nat) (Z0 : n0 ≤ h0.size)  : MetQ l Z (⟨"com/example/shapelint/shapelint/reader/NamespacesClosePinLaw", "same", "(Ljava/lang/String;Ljava/lang/String;)Z"⟩ : MethodName) (Jvm.Cond.code (⟨"com/example/shapelint/shapelint/reader/NamespacesClosePinLaw", "same", "(Ljava/lang/String;Ljava/lang/String;)Z"⟩ : MethodName) method_4_code 2 (some .boolean) :: ws) RM14 #[.null, .null] h0 (fun v h L => Fr n0 L ∧ h = h0 ∧ v = some (.int 1)) := by
  refine MetFree.of_bodySF (plainFor_of_name own_pn2) hisR ?_
  intro p e s m args below meth c s₁ Bd hml0 hP hK
  obtain ⟨rfl, hZ, hh⟩ := hP
  have hx := Bd.exec
  have hby := Bd.bytes
  have hml : c.maxLocals = 2 := hml0
  have hown : s.vm.findClass "com/example/shapelint/shapelint/reader/NamespacesClosePinLaw" = some m.cls := findClass_of_methodNamed Bd.named
  have hnm := (name_of_methodNamed Bd.named Bd.method).1
  have hlk : meth.locks = false := BodyLoose.notSynchronized Bd
  have X0 : Stand p l e RM14 s m #[.null, .null] below meth c s₁ [] 0 0 := Stand.of_body Bd
  have e0 : s₁.heap = h0 := by rw [← hh, Bd.state]; rfl
  have N0 := Fr.nil n0
  suffices kk : Ends p e below (PostQ s 0 0 (fun v h L => Fr n0 L ∧ h = h0 ∧ v = some (.int 1))) s₁ m 0 #[.val .null, .val .null] [] by
    obtain ⟨t, o, k1, k2, k3, k4⟩ := kk
    exact ⟨t, o, castTop (own_ef14nn m ) k1, k2, k3, k4⟩
  refine eALoadN X0 hx (hb hby own_d14_0) rfl rfl rfl ?_
  refine eNonNullN X0 hx (hb hby own_d14_1) rfl ?_
  refine eALoadN X0 hx (hb hby own_d14_4) rfl rfl rfl ?_
  refine eNonNullN X0 hx (hb hby own_d14_5) rfl ?_
  refine eIConst X0 hx (1 : Int32) (hb hby own_d14_8) rfl rfl ?_
  refine eGoto X0 hx (hb hby own_d14_9) (by decide) (pc' := 13) rfl ?_
  exact eRetN X0 hx (t := .boolean) Bd.returns (by simp) hlk (hb hby own_d14_13) (by decide) (by decide) ⟨N0, e0, rfl⟩
theorem own_d14_12 : decode method_4_code 12 = .ok (.iconst 0, 1) := by decide +kernel
theorem own_ef14nr (m : MethodId) (a2 : Addr) : entryFrame m #[.null, (.ref a2)] 2 = mkF m 0 #[.val .null, .val (.ref a2)] [] := by first | (simp [entryFrame, mkF, argsToLocals, Value.category]; done) | rfl
set_option maxRecDepth 65536 in
set_option maxHeartbeats 40000000 in
theorem rm14nr (l : Launch) (Z : State) (a0 : Array Value) (hw : ∀ d ∈ tables_1, d.before a0 Z = true) (ws : List Jvm.Cond) (a2 : Addr) (h0 : Heap) (n0 : Nat) (Z0 : n0 ≤ h0.size)  : MetQ l Z (⟨"com/example/shapelint/shapelint/reader/NamespacesClosePinLaw", "same", "(Ljava/lang/String;Ljava/lang/String;)Z"⟩ : MethodName) (Jvm.Cond.code (⟨"com/example/shapelint/shapelint/reader/NamespacesClosePinLaw", "same", "(Ljava/lang/String;Ljava/lang/String;)Z"⟩ : MethodName) method_4_code 2 (some .boolean) :: ws) RM14 #[.null, (.ref a2)] h0 (fun v h L => Fr n0 L ∧ h = h0 ∧ v = some (.int 0)) := by
  refine MetFree.of_bodySF (plainFor_of_name own_pn2) hisR ?_
  intro p e s m args below meth c s₁ Bd hml0 hP hK
  obtain ⟨rfl, hZ, hh⟩ := hP
  have hx := Bd.exec
  have hby := Bd.bytes
  have hml : c.maxLocals = 2 := hml0
  have hown : s.vm.findClass "com/example/shapelint/shapelint/reader/NamespacesClosePinLaw" = some m.cls := findClass_of_methodNamed Bd.named
  have hnm := (name_of_methodNamed Bd.named Bd.method).1
  have hlk : meth.locks = false := BodyLoose.notSynchronized Bd
  have X0 : Stand p l e RM14 s m #[.null, (.ref a2)] below meth c s₁ [] 0 0 := Stand.of_body Bd
  have e0 : s₁.heap = h0 := by rw [← hh, Bd.state]; rfl
  have N0 := Fr.nil n0
  suffices kk : Ends p e below (PostQ s 0 0 (fun v h L => Fr n0 L ∧ h = h0 ∧ v = some (.int 0))) s₁ m 0 #[.val .null, .val (.ref a2)] [] by
    obtain ⟨t, o, k1, k2, k3, k4⟩ := kk
    exact ⟨t, o, castTop (own_ef14nr m a2) k1, k2, k3, k4⟩
  refine eALoadN X0 hx (hb hby own_d14_0) rfl rfl rfl ?_
  refine eNonNullN X0 hx (hb hby own_d14_1) rfl ?_
  refine eALoadN X0 hx (hb hby own_d14_4) rfl rfl rfl ?_
  refine eNonNullY X0 hx (hb hby own_d14_5) (by decide) (pc' := 12) rfl ?_
  refine eIConst X0 hx (0 : Int32) (hb hby own_d14_12) rfl rfl ?_
  exact eRetN X0 hx (t := .boolean) Bd.returns (by simp) hlk (hb hby own_d14_13) (by decide) (by decide) ⟨N0, e0, rfl⟩
theorem own_d14_14 : decode method_4_code 14 = .ok (.aload_n 1, 1) := by decide +kernel
theorem own_d14_15 : decode method_4_code 15 = .ok (.ifnull 15, 3) := by decide +kernel
theorem own_d14_30 : decode method_4_code 30 = .ok (.iconst 0, 1) := by decide +kernel
theorem own_d14_31 : decode method_4_code 31 = .ok (.ireturn, 1) := by decide +kernel
theorem own_ef14rn (m : MethodId) (a1 : Addr) : entryFrame m #[(.ref a1), .null] 2 = mkF m 0 #[.val (.ref a1), .val .null] [] := by first | (simp [entryFrame, mkF, argsToLocals, Value.category]; done) | rfl
set_option maxRecDepth 65536 in
set_option maxHeartbeats 40000000 in
theorem rm14rn (l : Launch) (Z : State) (a0 : Array Value) (hw : ∀ d ∈ tables_1, d.before a0 Z = true) (ws : List Jvm.Cond) (a1 : Addr) (h0 : Heap) (n0 : Nat) (Z0 : n0 ≤ h0.size)  : MetQ l Z (⟨"com/example/shapelint/shapelint/reader/NamespacesClosePinLaw", "same", "(Ljava/lang/String;Ljava/lang/String;)Z"⟩ : MethodName) (Jvm.Cond.code (⟨"com/example/shapelint/shapelint/reader/NamespacesClosePinLaw", "same", "(Ljava/lang/String;Ljava/lang/String;)Z"⟩ : MethodName) method_4_code 2 (some .boolean) :: ws) RM14 #[(.ref a1), .null] h0 (fun v h L => Fr n0 L ∧ h = h0 ∧ v = some (.int 0)) := by
  refine MetFree.of_bodySF (plainFor_of_name own_pn2) hisR ?_
  intro p e s m args below meth c s₁ Bd hml0 hP hK
  obtain ⟨rfl, hZ, hh⟩ := hP
  have hx := Bd.exec
  have hby := Bd.bytes
  have hml : c.maxLocals = 2 := hml0
  have hown : s.vm.findClass "com/example/shapelint/shapelint/reader/NamespacesClosePinLaw" = some m.cls := findClass_of_methodNamed Bd.named
  have hnm := (name_of_methodNamed Bd.named Bd.method).1
  have hlk : meth.locks = false := BodyLoose.notSynchronized Bd
  have X0 : Stand p l e RM14 s m #[(.ref a1), .null] below meth c s₁ [] 0 0 := Stand.of_body Bd
  have e0 : s₁.heap = h0 := by rw [← hh, Bd.state]; rfl
  have N0 := Fr.nil n0
  suffices kk : Ends p e below (PostQ s 0 0 (fun v h L => Fr n0 L ∧ h = h0 ∧ v = some (.int 0))) s₁ m 0 #[.val (.ref a1), .val .null] [] by
    obtain ⟨t, o, k1, k2, k3, k4⟩ := kk
    exact ⟨t, o, castTop (own_ef14rn m a1) k1, k2, k3, k4⟩
  refine eALoadN X0 hx (hb hby own_d14_0) rfl rfl rfl ?_
  refine eNonNullY X0 hx (hb hby own_d14_1) (by decide) (pc' := 14) rfl ?_
  refine eALoadN X0 hx (hb hby own_d14_14) rfl rfl rfl ?_
  refine eNullY X0 hx (hb hby own_d14_15) (by decide) (pc' := 30) rfl ?_
  refine eIConst X0 hx (0 : Int32) (hb hby own_d14_30) rfl rfl ?_
  exact eRetN X0 hx (t := .boolean) Bd.returns (by simp) hlk (hb hby own_d14_31) (by decide) (by decide) ⟨N0, e0, rfl⟩
theorem own_d14_18 : decode method_4_code 18 = .ok (.aload_n 0, 1) := by decide +kernel
theorem own_d14_19 : decode method_4_code 19 = .ok (.aload_n 1, 1) := by decide +kernel
theorem own_pd4 : parseMethodDescriptor "(Ljava/lang/Object;)Z" = some ⟨[(.object "java/lang/Object")], some .boolean⟩ := by decide +kernel
theorem own_d14_20 : decode method_4_code 20 = .ok (.invokevirtual 17, 3) := by decide +kernel
theorem own_d14_23 : decode method_4_code 23 = .ok (.ifCond .eq 7, 3) := by decide +kernel
theorem own_d14_26 : decode method_4_code 26 = .ok (.iconst 1, 1) := by decide +kernel
theorem own_d14_27 : decode method_4_code 27 = .ok (.goto 4, 3) := by decide +kernel
theorem own_ef14rr (m : MethodId) (a1 : Addr) (a2 : Addr) : entryFrame m #[(.ref a1), (.ref a2)] 2 = mkF m 0 #[.val (.ref a1), .val (.ref a2)] [] := by first | (simp [entryFrame, mkF, argsToLocals, Value.category]; done) | rfl
set_option maxRecDepth 65536 in
set_option maxHeartbeats 40000000 in
theorem rm14rr (l : Launch) (Z : State) (a0 : Array Value) (hw : ∀ d ∈ tables_1, d.before a0 Z = true) (ws : List Jvm.Cond) (a1 a2 : Addr) (xs ys : List Int32) (h0 : Heap) (n0 : Nat) (Z0 : n0 ≤ h0.size) (G : Gd Z h0) (S1 : Str Z h0 a1 xs) (S2 : Str Z h0 a2 ys) : MetQ l Z (⟨"com/example/shapelint/shapelint/reader/NamespacesClosePinLaw", "same", "(Ljava/lang/String;Ljava/lang/String;)Z"⟩ : MethodName) (Jvm.Cond.code (⟨"com/example/shapelint/shapelint/reader/NamespacesClosePinLaw", "same", "(Ljava/lang/String;Ljava/lang/String;)Z"⟩ : MethodName) method_4_code 2 (some .boolean) :: ws) RM14 #[(.ref a1), (.ref a2)] h0 (fun v h L => Fr n0 L ∧ h = h0 ∧ v = some (.int (if xs = ys then 1 else 0))) := by
  refine MetFree.of_bodySF (plainFor_of_name own_pn2) hisR ?_
  intro p e s m args below meth c s₁ Bd hml0 hP hK
  obtain ⟨rfl, hZ, hh⟩ := hP
  have hx := Bd.exec
  have hby := Bd.bytes
  have hml : c.maxLocals = 2 := hml0
  have hown : s.vm.findClass "com/example/shapelint/shapelint/reader/NamespacesClosePinLaw" = some m.cls := findClass_of_methodNamed Bd.named
  have hnm := (name_of_methodNamed Bd.named Bd.method).1
  have hlk : meth.locks = false := BodyLoose.notSynchronized Bd
  have X0 : Stand p l e RM14 s m #[(.ref a1), (.ref a2)] below meth c s₁ [] 0 0 := Stand.of_body Bd
  have e0 : s₁.heap = h0 := by rw [← hh, Bd.state]; rfl
  have N0 := Fr.nil n0
  suffices kk : Ends p e below (PostQ s 0 0 (fun v h L => Fr n0 L ∧ h = h0 ∧ v = some (.int (if xs = ys then 1 else 0)))) s₁ m 0 #[.val (.ref a1), .val (.ref a2)] [] by
    obtain ⟨t, o, k1, k2, k3, k4⟩ := kk
    exact ⟨t, o, castTop (own_ef14rr m a1 a2) k1, k2, k3, k4⟩
  refine eALoadN X0 hx (hb hby own_d14_0) rfl rfl rfl ?_
  refine eNonNullY X0 hx (hb hby own_d14_1) (by decide) (pc' := 14) rfl ?_
  refine eALoadN X0 hx (hb hby own_d14_14) rfl rfl rfl ?_
  refine eNullN X0 hx (hb hby own_d14_15) rfl ?_
  refine eALoadN X0 hx (hb hby own_d14_18) rfl rfl rfl ?_
  refine eALoadN X0 hx (hb hby own_d14_19) rfl rfl rfl ?_
  refine eCallV X0 hx hZ (y := (⟨"java/lang/String", "equals", "(Ljava/lang/Object;)Z"⟩ : MethodName)) hown (hw _ (List.mem_of_getElem? (i := 85) rfl)) (hw _ (List.mem_of_getElem? (i := 78) rfl)) (hw _ (List.mem_of_getElem? (i := 80) rfl)) (hw _ (List.mem_of_getElem? (i := 79) rfl)) (hw _ (List.mem_of_getElem? (i := 5) rfl)) (hw _ (List.mem_of_getElem? (i := 81) rfl)) (by decide) e0 S1.1 (rm12 l Z a0 hw [] a1 a2 xs ys h0 n0 Z0 G S1 S2) (argsL := [(.ref a2)]) (rest := []) (lenOf own_pd4 rfl) rfl (by rw [hml]; rfl) 0 (by exact Nat.le_refl _) (by decide) (by decide) (by decide) (by decide) (hb hby own_d14_20) rfl (fun v1 T1 L1 q1 (X1 : Stand _ _ _ _ _ _ _ _ _ _ T1 _ 0 0)  => ?_)
  obtain ⟨N1', e1, rfl⟩ := q1
  have N1 := Fr.app N0 N1'
  show Ends p e below _ T1 m 23 #[.val (.ref a1), .val (.ref a2)] [(.int (if xs = ys then 1 else 0))]
  by_cases hxy : xs = ys
  · rw [if_pos hxy]
    refine eIfN X1 hx (hb hby own_d14_23) ((if0 _ _).trans (feq (by decide : ¬ (1 : Int32) = 0)).1) rfl ?_
    refine eIConst X1 hx (1 : Int32) (hb hby own_d14_26) rfl rfl ?_
    refine eGoto X1 hx (hb hby own_d14_27) (by decide) (pc' := 31) rfl ?_
    exact eRetN X1 hx (t := .boolean) Bd.returns (by simp) hlk (hb hby own_d14_31) (by decide) (by decide) ⟨N1, e1, rfl⟩
  · rw [if_neg hxy]
    refine eIfY X1 hx (hb hby own_d14_23) ((if0 _ _).trans (teq rfl).1) (by decide) (pc' := 30) rfl ?_
    refine eIConst X1 hx (0 : Int32) (hb hby own_d14_30) rfl rfl ?_
    exact eRetN X1 hx (t := .boolean) Bd.returns (by simp) hlk (hb hby own_d14_31) (by decide) (by decide) ⟨N1, e1, rfl⟩
theorem own_d8_0 : decode prog_110_method_4_code 0 = .ok (.aload_n 0, 1) := by decide +kernel
theorem own_d8_1 : decode prog_110_method_4_code 1 = .ok (.getfield 44, 3) := by decide +kernel
theorem own_d8_4 : decode prog_110_method_4_code 4 = .ok (.aload_n 0, 1) := by decide +kernel
theorem own_d8_5 : decode prog_110_method_4_code 5 = .ok (.getfield 9, 3) := by decide +kernel
theorem own_d8_8 : decode prog_110_method_4_code 8 = .ok (.arraylength, 1) := by decide +kernel
theorem own_d8_9 : decode prog_110_method_4_code 9 = .ok (.if_icmp .ne 43, 3) := by decide +kernel
theorem own_d8_52 : decode prog_110_method_4_code 52 = .ok (.aload_n 0, 1) := by decide +kernel
theorem own_d8_53 : decode prog_110_method_4_code 53 = .ok (.getfield 9, 3) := by decide +kernel
theorem own_d8_56 : decode prog_110_method_4_code 56 = .ok (.aload_n 0, 1) := by decide +kernel
theorem own_d8_57 : decode prog_110_method_4_code 57 = .ok (.getfield 44, 3) := by decide +kernel
theorem own_d8_60 : decode prog_110_method_4_code 60 = .ok (.aload_n 1, 1) := by decide +kernel
theorem own_d8_61 : decode prog_110_method_4_code 61 = .ok (.aastore, 1) := by decide +kernel
theorem own_d8_62 : decode prog_110_method_4_code 62 = .ok (.aload_n 0, 1) := by decide +kernel
theorem own_d8_63 : decode prog_110_method_4_code 63 = .ok (.getfield 15, 3) := by decide +kernel
theorem own_d8_66 : decode prog_110_method_4_code 66 = .ok (.aload_n 0, 1) := by decide +kernel
theorem own_d8_67 : decode prog_110_method_4_code 67 = .ok (.getfield 44, 3) := by decide +kernel
theorem own_d8_70 : decode prog_110_method_4_code 70 = .ok (.aload_n 2, 1) := by decide +kernel
theorem own_d8_71 : decode prog_110_method_4_code 71 = .ok (.aastore, 1) := by decide +kernel
theorem own_d8_72 : decode prog_110_method_4_code 72 = .ok (.aload_n 0, 1) := by decide +kernel
theorem own_d8_73 : decode prog_110_method_4_code 73 = .ok (.dup, 1) := by decide +kernel
theorem own_d8_74 : decode prog_110_method_4_code 74 = .ok (.getfield 44, 3) := by decide +kernel
theorem own_d8_77 : decode prog_110_method_4_code 77 = .ok (.iconst 1, 1) := by decide +kernel
theorem own_d8_78 : decode prog_110_method_4_code 78 = .ok (.iadd, 1) := by decide +kernel
theorem own_d8_79 : decode prog_110_method_4_code 79 = .ok (.putfield 44, 3) := by decide +kernel
theorem own_d8_82 : decode prog_110_method_4_code 82 = .ok (.return_, 1) := by decide +kernel
theorem own_pn3 : plainName "com/example/shapelint/shapelint/reader/Namespaces" = true := by first | (simp [plainName, overriddenIn]; done) | decide +kernel
def RM8 : Room := { frames := 0, cells := 0, slots := 0, locals := 0 }
theorem own_ef8 (m : MethodId) (a1 : Addr) (a2 : Addr) (a3 : Addr) : entryFrame m #[(.ref a1), (.ref a2), (.ref a3)] 3 = mkF m 0 #[.val (.ref a1), .val (.ref a2), .val (.ref a3)] [] := by first | (simp [entryFrame, mkF, argsToLocals, Value.category]; done) | rfl
set_option maxRecDepth 65536 in
set_option maxHeartbeats 40000000 in
theorem rm8 (l : Launch) (Z : State) (a0 : Array Value) (hw : ∀ d ∈ tables_1, d.before a0 Z = true) (ws : List Jvm.Cond) (a1 a2 a3 : Addr) (pa ua sa : Addr) (ps us : List Value) (ss : List Int32) (cnt dep : Int32) (h0 : Heap) (n0 : Nat) (Z0 : n0 ≤ h0.size) (Hn : Nsp Z h0 a1 pa ua sa ps us ss cnt dep) (E2 : Exa Z h0 a2 "java/lang/String") (E3 : Exa Z h0 a3 "java/lang/String") (hc0 : ¬ cnt < 0) (hc : cnt.toNatClampNeg < 16) (hp : ps.length = 16) (hu : us.length = 16) (g1 : n0 ≤ a1) (g2 : n0 ≤ pa) (g3 : n0 ≤ ua) (g4 : n0 ≤ sa) : MetQ l Z (⟨"com/example/shapelint/shapelint/reader/Namespaces", "bind", "(Ljava/lang/String;Ljava/lang/String;)V"⟩ : MethodName) (Jvm.Cond.code (⟨"com/example/shapelint/shapelint/reader/Namespaces", "bind", "(Ljava/lang/String;Ljava/lang/String;)V"⟩ : MethodName) prog_110_method_4_code 3 none :: ws) RM8 #[(.ref a1), (.ref a2), (.ref a3)] h0 (fun v h L => Fr n0 L ∧ Keep h0 h [a1, pa, ua, sa] ∧ v = none ∧ Nsp Z h a1 pa ua sa (ps.set cnt.toNatClampNeg (.ref a2)) (us.set cnt.toNatClampNeg (.ref a3)) ss (cnt + 1) dep) := by
  refine MetFree.of_bodySF (plainFor_of_name own_pn3) hisR ?_
  intro p e s m args below meth c s₁ Bd hml0 hP hK
  obtain ⟨rfl, hZ, hh⟩ := hP
  have hx := Bd.exec
  have hby := Bd.bytes
  have hml : c.maxLocals = 3 := hml0
  have hown : s.vm.findClass "com/example/shapelint/shapelint/reader/Namespaces" = some m.cls := findClass_of_methodNamed Bd.named
  have hnm := (name_of_methodNamed Bd.named Bd.method).1
  have hlk : meth.locks = false := BodyLoose.notSynchronized Bd
  have X0 : Stand p l e RM8 s m #[(.ref a1), (.ref a2), (.ref a3)] below meth c s₁ [] 0 0 := Stand.of_body Bd
  have e0 : s₁.heap = h0 := by rw [← hh, Bd.state]; rfl
  have N0 := Fr.nil n0
  suffices kk : Ends p e below (PostQ s 0 0 (fun v h L => Fr n0 L ∧ Keep h0 h [a1, pa, ua, sa] ∧ v = none ∧ Nsp Z h a1 pa ua sa (ps.set cnt.toNatClampNeg (.ref a2)) (us.set cnt.toNatClampNeg (.ref a3)) ss (cnt + 1) dep)) s₁ m 0 #[.val (.ref a1), .val (.ref a2), .val (.ref a3)] [] by
    obtain ⟨t, o, k1, k2, k3, k4⟩ := kk
    exact ⟨t, o, castTop (own_ef8 m a1 a2 a3) k1, k2, k3, k4⟩
  obtain ⟨En, Fp, Fu, Fs, Fc, Fd, RP, RU, AS, Ep, Eu, Es, npu⟩ := Hn
  have nap := Exa.ne En Ep (by decide)
  have nau := Exa.ne En Eu (by decide)
  have nas := Exa.ne En Es (by decide)
  have nps := Exa.ne Ep Es (by decide)
  have nus := Exa.ne Eu Es (by decide)
  have hc6 : ¬ cnt = 16 := fun q => by subst q; exact absurd hc (by decide)
  have K0 := Keep.refl h0 [a1, pa, ua, sa]
  refine eALoadN X0 hx (hb hby own_d8_0) rfl rfl rfl ?_
  refine eGetF X0 hx hZ hown (hw _ (List.mem_of_getElem? (i := 56) rfl)) Via.refl e0 Fc (hb hby own_d8_1) rfl (fun T1 X1 e1 => ?_)
  refine eALoadN X1 hx (hb hby own_d8_4) rfl rfl rfl ?_
  refine eGetF X1 hx hZ hown (hw _ (List.mem_of_getElem? (i := 42) rfl)) Via.refl e1 Fp (hb hby own_d8_5) rfl (fun T2 X2 e2 => ?_)
  refine eRLen X2 hx hZ e2 RP (16 : Int32) (by rw [hp]; rfl) (hb hby own_d8_8) rfl ?_
  refine eIcmpY X2 hx (hb hby own_d8_9) (feq hc6).2 (by decide) (pc' := 52) rfl ?_
  refine eALoadN X2 hx (hb hby own_d8_52) rfl rfl rfl ?_
  refine eGetF X2 hx hZ hown (hw _ (List.mem_of_getElem? (i := 42) rfl)) Via.refl e2 Fp (hb hby own_d8_53) rfl (fun T3 X3 e3 => ?_)
  refine eALoadN X3 hx (hb hby own_d8_56) rfl rfl rfl ?_
  refine eGetF X3 hx hZ hown (hw _ (List.mem_of_getElem? (i := 56) rfl)) Via.refl e3 Fc (hb hby own_d8_57) rfl (fun T4 X4 e4 => ?_)
  refine eALoadN X4 hx (hb hby own_d8_60) rfl rfl rfl ?_
  refine eAAStore X4 hx hZ e4 RP (Or.inr ⟨a2, rfl, E2⟩) ⟨hc0, by omega⟩ (hb hby own_d8_61) rfl (fun T5 h5 X5 e5 W5 A5 => ?_)
  have N5 := Fr.snoc X5 N0 g2
  have Z5 := Nat.le_trans Z0 (Keep.of_wr W5).1
  have En := En.wr W5
  have Ep := Ep.wr W5
  have Eu := Eu.wr W5
  have Es := Es.wr W5
  have E2 := E2.wr W5
  have E3 := E3.wr W5
  have Fp := Fp.other W5 (Or.inl nap)
  have Fu := Fu.other W5 (Or.inl nap)
  have Fs := Fs.other W5 (Or.inl nap)
  have Fc := Fc.other W5 (Or.inl nap)
  have Fd := Fd.other W5 (Or.inl nap)
  have RU := RU.other W5 (Ne.symm npu)
  have AS := AS.other W5 (Ne.symm nps)
  have RP := A5
  have K5 : Keep h0 h5 [a1, pa, ua, sa] := K0.wr W5 (Or.inl (List.mem_of_getElem? (i := 1) rfl))
  refine eALoadN X5 hx (hb hby own_d8_62) rfl rfl rfl ?_
  refine eGetF X5 hx hZ hown (hw _ (List.mem_of_getElem? (i := 44) rfl)) Via.refl e5 Fu (hb hby own_d8_63) rfl (fun T6 X6 e6 => ?_)
  refine eALoadN X6 hx (hb hby own_d8_66) rfl rfl rfl ?_
  refine eGetF X6 hx hZ hown (hw _ (List.mem_of_getElem? (i := 56) rfl)) Via.refl e6 Fc (hb hby own_d8_67) rfl (fun T7 X7 e7 => ?_)
  refine eALoadN X7 hx (hb hby own_d8_70) rfl rfl rfl ?_
  refine eAAStore X7 hx hZ e7 RU (Or.inr ⟨a3, rfl, E3⟩) ⟨hc0, by omega⟩ (hb hby own_d8_71) rfl (fun T8 h8 X8 e8 W8 A8 => ?_)
  have N8 := Fr.snoc X8 N5 g3
  have Z8 := Nat.le_trans Z5 (Keep.of_wr W8).1
  have En := En.wr W8
  have Ep := Ep.wr W8
  have Eu := Eu.wr W8
  have Es := Es.wr W8
  have E2 := E2.wr W8
  have E3 := E3.wr W8
  have Fp := Fp.other W8 (Or.inl nau)
  have Fu := Fu.other W8 (Or.inl nau)
  have Fs := Fs.other W8 (Or.inl nau)
  have Fc := Fc.other W8 (Or.inl nau)
  have Fd := Fd.other W8 (Or.inl nau)
  have RP := RP.other W8 npu
  have AS := AS.other W8 (Ne.symm nus)
  have RU := A8
  have K8 : Keep h0 h8 [a1, pa, ua, sa] := K5.wr W8 (Or.inl (List.mem_of_getElem? (i := 2) rfl))
  refine eALoadN X8 hx (hb hby own_d8_72) rfl rfl rfl ?_
  refine eDup X8 hx (hb hby own_d8_73) rfl rfl ?_
  refine eGetF X8 hx hZ hown (hw _ (List.mem_of_getElem? (i := 56) rfl)) Via.refl e8 Fc (hb hby own_d8_74) rfl (fun T9 X9 e9 => ?_)
  refine eIConst X9 hx (1 : Int32) (hb hby own_d8_77) rfl rfl ?_
  refine eIAdd X9 hx (hb hby own_d8_78) rfl ?_
  refine ePutF X9 hx hZ hown (hw _ (List.mem_of_getElem? (i := 56) rfl)) Via.refl e9 Fc En (Or.inl (hw _ (List.mem_of_getElem? (i := 57) rfl))) (hw _ (List.mem_of_getElem? (i := 34) rfl)) (ty := .int) (by decide) rfl rfl (hb hby own_d8_79) rfl (fun T10 h10 X10 e10 W10 => ?_)
  have N10 := Fr.snoc X10 N8 g1
  have Z10 := Nat.le_trans Z8 (Keep.of_wr W10).1
  have En := En.wr W10
  have Ep := Ep.wr W10
  have Eu := Eu.wr W10
  have Es := Es.wr W10
  have Fp := Fp.other W10 (Or.inr (slot_ne (Or.inl (hw _ (List.mem_of_getElem? (i := 43) rfl))) (Or.inl (hw _ (List.mem_of_getElem? (i := 57) rfl))) (by decide) (t := (.array (.object "java/lang/String"))) (t' := .int) (by decide) (by decide)))
  have Fu := Fu.other W10 (Or.inr (slot_ne (Or.inl (hw _ (List.mem_of_getElem? (i := 45) rfl))) (Or.inl (hw _ (List.mem_of_getElem? (i := 57) rfl))) (by decide) (t := (.array (.object "java/lang/String"))) (t' := .int) (by decide) (by decide)))
  have Fs := Fs.other W10 (Or.inr (slot_ne (Or.inl (hw _ (List.mem_of_getElem? (i := 48) rfl))) (Or.inl (hw _ (List.mem_of_getElem? (i := 57) rfl))) (by decide) (t := (.array .int)) (t' := .int) (by decide) (by decide)))
  have Fc := Fc.same W10
  have Fd := Fd.other W10 (Or.inr (slot_ne (Or.inl (hw _ (List.mem_of_getElem? (i := 65) rfl))) (Or.inl (hw _ (List.mem_of_getElem? (i := 57) rfl))) (by decide) (t := .int) (t' := .int) (by decide) (by decide)))
  have RP := RP.other W10 (Ne.symm nap)
  have RU := RU.other W10 (Ne.symm nau)
  have AS := AS.other W10 (Ne.symm nas)
  have K10 : Keep h0 h10 [a1, pa, ua, sa] := K8.wr W10 (Or.inl (List.mem_of_getElem? (i := 0) rfl))
  exact eRetV X10 hx Bd.returns hlk (hb hby own_d8_82) (by decide) (by decide) (by rw [e10]; exact ⟨N10, K10, rfl, ⟨En, Fp, Fu, Fs, Fc, Fd, RP, RU, AS, Ep, Eu, Es, npu⟩⟩)
theorem own_d9_0 : decode prog_110_method_2_code 0 = .ok (.aload_n 0, 1) := by decide +kernel
theorem own_d9_1 : decode prog_110_method_2_code 1 = .ok (.getfield 34, 3) := by decide +kernel
theorem own_d9_4 : decode prog_110_method_2_code 4 = .ok (.aload_n 0, 1) := by decide +kernel
theorem own_d9_5 : decode prog_110_method_2_code 5 = .ok (.getfield 18, 3) := by decide +kernel
theorem own_d9_8 : decode prog_110_method_2_code 8 = .ok (.arraylength, 1) := by decide +kernel
theorem own_d9_9 : decode prog_110_method_2_code 9 = .ok (.if_icmp .ne 20, 3) := by decide +kernel
theorem own_d9_29 : decode prog_110_method_2_code 29 = .ok (.aload_n 0, 1) := by decide +kernel
theorem own_d9_30 : decode prog_110_method_2_code 30 = .ok (.getfield 18, 3) := by decide +kernel
theorem own_d9_33 : decode prog_110_method_2_code 33 = .ok (.aload_n 0, 1) := by decide +kernel
theorem own_d9_34 : decode prog_110_method_2_code 34 = .ok (.dup, 1) := by decide +kernel
theorem own_d9_35 : decode prog_110_method_2_code 35 = .ok (.getfield 34, 3) := by decide +kernel
theorem own_d9_38 : decode prog_110_method_2_code 38 = .ok (.dup_x1, 1) := by decide +kernel
theorem own_d9_39 : decode prog_110_method_2_code 39 = .ok (.iconst 1, 1) := by decide +kernel
theorem own_d9_40 : decode prog_110_method_2_code 40 = .ok (.iadd, 1) := by decide +kernel
theorem own_d9_41 : decode prog_110_method_2_code 41 = .ok (.putfield 34, 3) := by decide +kernel
theorem own_d9_44 : decode prog_110_method_2_code 44 = .ok (.aload_n 0, 1) := by decide +kernel
theorem own_d9_45 : decode prog_110_method_2_code 45 = .ok (.getfield 44, 3) := by decide +kernel
theorem own_d9_48 : decode prog_110_method_2_code 48 = .ok (.iastore, 1) := by decide +kernel
theorem own_d9_49 : decode prog_110_method_2_code 49 = .ok (.return_, 1) := by decide +kernel
def RM9 : Room := { frames := 0, cells := 0, slots := 0, locals := 0 }
theorem own_ef9 (m : MethodId) (a1 : Addr) : entryFrame m #[(.ref a1)] 1 = mkF m 0 #[.val (.ref a1)] [] := by first | (simp [entryFrame, mkF, argsToLocals, Value.category]; done) | rfl
set_option maxRecDepth 65536 in
set_option maxHeartbeats 40000000 in
theorem rm9 (l : Launch) (Z : State) (a0 : Array Value) (hw : ∀ d ∈ tables_1, d.before a0 Z = true) (ws : List Jvm.Cond) (a1 : Addr) (pa ua sa : Addr) (ps us : List Value) (ss : List Int32) (cnt dep : Int32) (h0 : Heap) (n0 : Nat) (Z0 : n0 ≤ h0.size) (Hn : Nsp Z h0 a1 pa ua sa ps us ss cnt dep) (hd0 : ¬ dep < 0) (hd : dep.toNatClampNeg < 16) (hs : ss.length = 16) (g1 : n0 ≤ a1) (g2 : n0 ≤ pa) (g3 : n0 ≤ ua) (g4 : n0 ≤ sa) : MetQ l Z (⟨"com/example/shapelint/shapelint/reader/Namespaces", "open", "()V"⟩ : MethodName) (Jvm.Cond.code (⟨"com/example/shapelint/shapelint/reader/Namespaces", "open", "()V"⟩ : MethodName) prog_110_method_2_code 1 none :: ws) RM9 #[(.ref a1)] h0 (fun v h L => Fr n0 L ∧ Keep h0 h [a1, pa, ua, sa] ∧ v = none ∧ Nsp Z h a1 pa ua sa ps us (wr ss dep cnt) cnt (dep + 1)) := by
  refine MetFree.of_bodySF (plainFor_of_name own_pn3) hisR ?_
  intro p e s m args below meth c s₁ Bd hml0 hP hK
  obtain ⟨rfl, hZ, hh⟩ := hP
  have hx := Bd.exec
  have hby := Bd.bytes
  have hml : c.maxLocals = 1 := hml0
  have hown : s.vm.findClass "com/example/shapelint/shapelint/reader/Namespaces" = some m.cls := findClass_of_methodNamed Bd.named
  have hnm := (name_of_methodNamed Bd.named Bd.method).1
  have hlk : meth.locks = false := BodyLoose.notSynchronized Bd
  have X0 : Stand p l e RM9 s m #[(.ref a1)] below meth c s₁ [] 0 0 := Stand.of_body Bd
  have e0 : s₁.heap = h0 := by rw [← hh, Bd.state]; rfl
  have N0 := Fr.nil n0
  suffices kk : Ends p e below (PostQ s 0 0 (fun v h L => Fr n0 L ∧ Keep h0 h [a1, pa, ua, sa] ∧ v = none ∧ Nsp Z h a1 pa ua sa ps us (wr ss dep cnt) cnt (dep + 1))) s₁ m 0 #[.val (.ref a1)] [] by
    obtain ⟨t, o, k1, k2, k3, k4⟩ := kk
    exact ⟨t, o, castTop (own_ef9 m a1) k1, k2, k3, k4⟩
  obtain ⟨En, Fp, Fu, Fs, Fc, Fd, RP, RU, AS, Ep, Eu, Es, npu⟩ := Hn
  have nap := Exa.ne En Ep (by decide)
  have nau := Exa.ne En Eu (by decide)
  have nas := Exa.ne En Es (by decide)
  have nps := Exa.ne Ep Es (by decide)
  have nus := Exa.ne Eu Es (by decide)
  have hc6 : ¬ dep = 16 := fun q => by subst q; exact absurd hd (by decide)
  have K0 := Keep.refl h0 [a1, pa, ua, sa]
  refine eALoadN X0 hx (hb hby own_d9_0) rfl rfl rfl ?_
  refine eGetF X0 hx hZ hown (hw _ (List.mem_of_getElem? (i := 64) rfl)) Via.refl e0 Fd (hb hby own_d9_1) rfl (fun T1 X1 e1 => ?_)
  refine eALoadN X1 hx (hb hby own_d9_4) rfl rfl rfl ?_
  refine eGetF X1 hx hZ hown (hw _ (List.mem_of_getElem? (i := 47) rfl)) Via.refl e1 Fs (hb hby own_d9_5) rfl (fun T2 X2 e2 => ?_)
  refine eLen X2 hx hZ e2 AS (16 : Int32) (by rw [hs]; rfl) (hb hby own_d9_8) rfl ?_
  refine eIcmpY X2 hx (hb hby own_d9_9) (feq hc6).2 (by decide) (pc' := 29) rfl ?_
  refine eALoadN X2 hx (hb hby own_d9_29) rfl rfl rfl ?_
  refine eGetF X2 hx hZ hown (hw _ (List.mem_of_getElem? (i := 47) rfl)) Via.refl e2 Fs (hb hby own_d9_30) rfl (fun T3 X3 e3 => ?_)
  refine eALoadN X3 hx (hb hby own_d9_33) rfl rfl rfl ?_
  refine eDup X3 hx (hb hby own_d9_34) rfl rfl ?_
  refine eGetF X3 hx hZ hown (hw _ (List.mem_of_getElem? (i := 64) rfl)) Via.refl e3 Fd (hb hby own_d9_35) rfl (fun T4 X4 e4 => ?_)
  refine eDupX1 X4 hx (hb hby own_d9_38) rfl rfl rfl ?_
  refine eIConst X4 hx (1 : Int32) (hb hby own_d9_39) rfl rfl ?_
  refine eIAdd X4 hx (hb hby own_d9_40) rfl ?_
  refine ePutF X4 hx hZ hown (hw _ (List.mem_of_getElem? (i := 64) rfl)) Via.refl e4 Fd En (Or.inl (hw _ (List.mem_of_getElem? (i := 65) rfl))) (hw _ (List.mem_of_getElem? (i := 34) rfl)) (ty := .int) (by decide) rfl rfl (hb hby own_d9_41) rfl (fun T5 h5 X5 e5 W5 => ?_)
  have N5 := Fr.snoc X5 N0 g1
  have Z5 := Nat.le_trans Z0 (Keep.of_wr W5).1
  have En := En.wr W5
  have Ep := Ep.wr W5
  have Eu := Eu.wr W5
  have Es := Es.wr W5
  have Fp := Fp.other W5 (Or.inr (slot_ne (Or.inl (hw _ (List.mem_of_getElem? (i := 43) rfl))) (Or.inl (hw _ (List.mem_of_getElem? (i := 65) rfl))) (by decide) (t := (.array (.object "java/lang/String"))) (t' := .int) (by decide) (by decide)))
  have Fu := Fu.other W5 (Or.inr (slot_ne (Or.inl (hw _ (List.mem_of_getElem? (i := 45) rfl))) (Or.inl (hw _ (List.mem_of_getElem? (i := 65) rfl))) (by decide) (t := (.array (.object "java/lang/String"))) (t' := .int) (by decide) (by decide)))
  have Fs := Fs.other W5 (Or.inr (slot_ne (Or.inl (hw _ (List.mem_of_getElem? (i := 48) rfl))) (Or.inl (hw _ (List.mem_of_getElem? (i := 65) rfl))) (by decide) (t := (.array .int)) (t' := .int) (by decide) (by decide)))
  have Fc := Fc.other W5 (Or.inr (slot_ne (Or.inl (hw _ (List.mem_of_getElem? (i := 57) rfl))) (Or.inl (hw _ (List.mem_of_getElem? (i := 65) rfl))) (by decide) (t := .int) (t' := .int) (by decide) (by decide)))
  have Fd := Fd.same W5
  have RP := RP.other W5 (Ne.symm nap)
  have RU := RU.other W5 (Ne.symm nau)
  have AS := AS.other W5 (Ne.symm nas)
  have K5 : Keep h0 h5 [a1, pa, ua, sa] := K0.wr W5 (Or.inl (List.mem_of_getElem? (i := 0) rfl))
  refine eALoadN X5 hx (hb hby own_d9_44) rfl rfl rfl ?_
  refine eGetF X5 hx hZ hown (hw _ (List.mem_of_getElem? (i := 56) rfl)) Via.refl e5 Fc (hb hby own_d9_45) rfl (fun T6 X6 e6 => ?_)
  refine eIAStore X6 hx hZ e6 AS ⟨hd0, by omega⟩ (hb hby own_d9_48) rfl (fun T7 h7 X7 e7 W7 A7 => ?_)
  have N7 := Fr.snoc X7 N5 g4
  have Z7 := Nat.le_trans Z5 (Keep.of_wr W7).1
  have En := En.wr W7
  have Ep := Ep.wr W7
  have Eu := Eu.wr W7
  have Es := Es.wr W7
  have Fp := Fp.other W7 (Or.inl nas)
  have Fu := Fu.other W7 (Or.inl nas)
  have Fs := Fs.other W7 (Or.inl nas)
  have Fc := Fc.other W7 (Or.inl nas)
  have Fd := Fd.other W7 (Or.inl nas)
  have RP := RP.other W7 nps
  have RU := RU.other W7 nus
  have AS := A7
  have K7 : Keep h0 h7 [a1, pa, ua, sa] := K5.wr W7 (Or.inl (List.mem_of_getElem? (i := 3) rfl))
  exact eRetV X7 hx Bd.returns hlk (hb hby own_d9_49) (by decide) (by decide) (by rw [e7]; exact ⟨N7, K7, rfl, ⟨En, Fp, Fu, Fs, Fc, Fd, RP, RU, AS, Ep, Eu, Es, npu⟩⟩)
theorem own_d10_0 : decode prog_110_method_3_code 0 = .ok (.aload_n 0, 1) := by decide +kernel
theorem own_d10_1 : decode prog_110_method_3_code 1 = .ok (.dup, 1) := by decide +kernel
theorem own_d10_2 : decode prog_110_method_3_code 2 = .ok (.getfield 34, 3) := by decide +kernel
theorem own_d10_5 : decode prog_110_method_3_code 5 = .ok (.iconst 1, 1) := by decide +kernel
theorem own_d10_6 : decode prog_110_method_3_code 6 = .ok (.isub, 1) := by decide +kernel
theorem own_d10_7 : decode prog_110_method_3_code 7 = .ok (.putfield 34, 3) := by decide +kernel
theorem own_d10_10 : decode prog_110_method_3_code 10 = .ok (.aload_n 0, 1) := by decide +kernel
theorem own_d10_11 : decode prog_110_method_3_code 11 = .ok (.getfield 18, 3) := by decide +kernel
theorem own_d10_14 : decode prog_110_method_3_code 14 = .ok (.aload_n 0, 1) := by decide +kernel
theorem own_d10_15 : decode prog_110_method_3_code 15 = .ok (.getfield 34, 3) := by decide +kernel
theorem own_d10_18 : decode prog_110_method_3_code 18 = .ok (.iaload, 1) := by decide +kernel
theorem own_d10_19 : decode prog_110_method_3_code 19 = .ok (.istore_n 1, 1) := by decide +kernel
theorem own_d10_20 : decode prog_110_method_3_code 20 = .ok (.iload_n 1, 1) := by decide +kernel
theorem own_d10_21 : decode prog_110_method_3_code 21 = .ok (.aload_n 0, 1) := by decide +kernel
theorem own_d10_22 : decode prog_110_method_3_code 22 = .ok (.getfield 44, 3) := by decide +kernel
theorem own_d10_25 : decode prog_110_method_3_code 25 = .ok (.if_icmp .ge 23, 3) := by decide +kernel
theorem own_d10_48 : decode prog_110_method_3_code 48 = .ok (.aload_n 0, 1) := by decide +kernel
theorem own_d10_49 : decode prog_110_method_3_code 49 = .ok (.aload_n 0, 1) := by decide +kernel
theorem own_d10_50 : decode prog_110_method_3_code 50 = .ok (.getfield 18, 3) := by decide +kernel
theorem own_d10_53 : decode prog_110_method_3_code 53 = .ok (.aload_n 0, 1) := by decide +kernel
theorem own_d10_54 : decode prog_110_method_3_code 54 = .ok (.getfield 34, 3) := by decide +kernel
theorem own_d10_57 : decode prog_110_method_3_code 57 = .ok (.iaload, 1) := by decide +kernel
theorem own_d10_58 : decode prog_110_method_3_code 58 = .ok (.putfield 44, 3) := by decide +kernel
theorem own_d10_61 : decode prog_110_method_3_code 61 = .ok (.return_, 1) := by decide +kernel
theorem own_d10_28 : decode prog_110_method_3_code 28 = .ok (.aload_n 0, 1) := by decide +kernel
theorem own_d10_29 : decode prog_110_method_3_code 29 = .ok (.getfield 9, 3) := by decide +kernel
theorem own_d10_32 : decode prog_110_method_3_code 32 = .ok (.iload_n 1, 1) := by decide +kernel
theorem own_d10_33 : decode prog_110_method_3_code 33 = .ok (.aconst_null, 1) := by decide +kernel
theorem own_d10_34 : decode prog_110_method_3_code 34 = .ok (.aastore, 1) := by decide +kernel
theorem own_d10_35 : decode prog_110_method_3_code 35 = .ok (.aload_n 0, 1) := by decide +kernel
theorem own_d10_36 : decode prog_110_method_3_code 36 = .ok (.getfield 15, 3) := by decide +kernel
theorem own_d10_39 : decode prog_110_method_3_code 39 = .ok (.iload_n 1, 1) := by decide +kernel
theorem own_d10_40 : decode prog_110_method_3_code 40 = .ok (.aconst_null, 1) := by decide +kernel
theorem own_d10_41 : decode prog_110_method_3_code 41 = .ok (.aastore, 1) := by decide +kernel
theorem own_d10_42 : decode prog_110_method_3_code 42 = .ok (.iinc 1 1, 3) := by decide +kernel
theorem own_d10_45 : decode prog_110_method_3_code 45 = .ok (.goto (-25), 3) := by decide +kernel
def RM10 : Room := { frames := 0, cells := 0, slots := 0, locals := 0 }
theorem own_ef10 (m : MethodId) (a1 : Addr) : entryFrame m #[(.ref a1)] 2 = mkF m 0 #[.val (.ref a1), .unset] [] := by first | (simp [entryFrame, mkF, argsToLocals, Value.category]; done) | rfl
set_option maxRecDepth 65536 in
set_option maxHeartbeats 40000000 in
theorem rm10 (l : Launch) (Z : State) (a0 : Array Value) (hw : ∀ d ∈ tables_1, d.before a0 Z = true) (ws : List Jvm.Cond) (a1 : Addr) (pa ua sa : Addr) (ps us : List Value) (ss : List Int32) (cnt dep : Int32) (c0 : Int32) (nc n0' : Nat) (h0 : Heap) (n0 : Nat) (Z0 : n0 ≤ h0.size) (Hn : Nsp Z h0 a1 pa ua sa ps us ss cnt dep) (hr : rd ss (dep - 1) = c0) (hi : InB ss (dep - 1)) (h00 : c0.toInt = n0') (hcn : cnt.toInt = nc) (hle : n0' ≤ nc) (hn16 : nc ≤ 16) (hp : ps.length = 16) (hu : us.length = 16) (g1 : n0 ≤ a1) (g2 : n0 ≤ pa) (g3 : n0 ≤ ua) (g4 : n0 ≤ sa) : MetQ l Z (⟨"com/example/shapelint/shapelint/reader/Namespaces", "close", "()V"⟩ : MethodName) (Jvm.Cond.code (⟨"com/example/shapelint/shapelint/reader/Namespaces", "close", "()V"⟩ : MethodName) prog_110_method_3_code 2 none :: ws) RM10 #[(.ref a1)] h0 (fun v h L => Fr n0 L ∧ Keep h0 h [a1, pa, ua, sa] ∧ v = none ∧ ∃ ps' us' : List Value, ps'.length = 16 ∧ us'.length = 16 ∧ (∀ q, q < n0' → ps'[q]? = ps[q]? ∧ us'[q]? = us[q]?) ∧ Nsp Z h a1 pa ua sa ps' us' ss c0 (dep - 1)) := by
  refine MetFree.of_bodySF (plainFor_of_name own_pn3) hisR ?_
  intro p e s m args below meth c s₁ Bd hml0 hP hK
  obtain ⟨rfl, hZ, hh⟩ := hP
  have hx := Bd.exec
  have hby := Bd.bytes
  have hml : c.maxLocals = 2 := hml0
  have hown : s.vm.findClass "com/example/shapelint/shapelint/reader/Namespaces" = some m.cls := findClass_of_methodNamed Bd.named
  have hnm := (name_of_methodNamed Bd.named Bd.method).1
  have hlk : meth.locks = false := BodyLoose.notSynchronized Bd
  have X0 : Stand p l e RM10 s m #[(.ref a1)] below meth c s₁ [] 0 0 := Stand.of_body Bd
  have e0 : s₁.heap = h0 := by rw [← hh, Bd.state]; rfl
  have N0 := Fr.nil n0
  suffices kk : Ends p e below (PostQ s 0 0 (fun v h L => Fr n0 L ∧ Keep h0 h [a1, pa, ua, sa] ∧ v = none ∧ ∃ ps' us' : List Value, ps'.length = 16 ∧ us'.length = 16 ∧ (∀ q, q < n0' → ps'[q]? = ps[q]? ∧ us'[q]? = us[q]?) ∧ Nsp Z h a1 pa ua sa ps' us' ss c0 (dep - 1))) s₁ m 0 #[.val (.ref a1), .unset] [] by
    obtain ⟨t, o, k1, k2, k3, k4⟩ := kk
    exact ⟨t, o, castTop (own_ef10 m a1) k1, k2, k3, k4⟩
  obtain ⟨En, Fp, Fu, Fs, Fc, Fd, RP, RU, AS, Ep, Eu, Es, npu⟩ := Hn
  have nap := Exa.ne En Ep (by decide)
  have nau := Exa.ne En Eu (by decide)
  have nas := Exa.ne En Es (by decide)
  have nps := Exa.ne Ep Es (by decide)
  have nus := Exa.ne Eu Es (by decide)
  have K0 := Keep.refl h0 [a1, pa, ua, sa]
  refine eALoadN X0 hx (hb hby own_d10_0) rfl rfl rfl ?_
  refine eDup X0 hx (hb hby own_d10_1) rfl rfl ?_
  refine eGetF X0 hx hZ hown (hw _ (List.mem_of_getElem? (i := 64) rfl)) Via.refl e0 Fd (hb hby own_d10_2) rfl (fun T1 X1 e1 => ?_)
  refine eIConst X1 hx (1 : Int32) (hb hby own_d10_5) rfl rfl ?_
  refine eISub X1 hx (hb hby own_d10_6) rfl ?_
  refine ePutF X1 hx hZ hown (hw _ (List.mem_of_getElem? (i := 64) rfl)) Via.refl e1 Fd En (Or.inl (hw _ (List.mem_of_getElem? (i := 65) rfl))) (hw _ (List.mem_of_getElem? (i := 34) rfl)) (ty := .int) (by decide) rfl rfl (hb hby own_d10_7) rfl (fun T2 h2 X2 e2 W2 => ?_)
  have N2 := Fr.snoc X2 N0 g1
  have Z2 := Nat.le_trans Z0 (Keep.of_wr W2).1
  have En := En.wr W2
  have Ep := Ep.wr W2
  have Eu := Eu.wr W2
  have Es := Es.wr W2
  have Fp := Fp.other W2 (Or.inr (slot_ne (Or.inl (hw _ (List.mem_of_getElem? (i := 43) rfl))) (Or.inl (hw _ (List.mem_of_getElem? (i := 65) rfl))) (by decide) (t := (.array (.object "java/lang/String"))) (t' := .int) (by decide) (by decide)))
  have Fu := Fu.other W2 (Or.inr (slot_ne (Or.inl (hw _ (List.mem_of_getElem? (i := 45) rfl))) (Or.inl (hw _ (List.mem_of_getElem? (i := 65) rfl))) (by decide) (t := (.array (.object "java/lang/String"))) (t' := .int) (by decide) (by decide)))
  have Fs := Fs.other W2 (Or.inr (slot_ne (Or.inl (hw _ (List.mem_of_getElem? (i := 48) rfl))) (Or.inl (hw _ (List.mem_of_getElem? (i := 65) rfl))) (by decide) (t := (.array .int)) (t' := .int) (by decide) (by decide)))
  have Fc := Fc.other W2 (Or.inr (slot_ne (Or.inl (hw _ (List.mem_of_getElem? (i := 57) rfl))) (Or.inl (hw _ (List.mem_of_getElem? (i := 65) rfl))) (by decide) (t := .int) (t' := .int) (by decide) (by decide)))
  have Fd := Fd.same W2
  have RP := RP.other W2 (Ne.symm nap)
  have RU := RU.other W2 (Ne.symm nau)
  have AS := AS.other W2 (Ne.symm nas)
  have K2 : Keep h0 h2 [a1, pa, ua, sa] := K0.wr W2 (Or.inl (List.mem_of_getElem? (i := 0) rfl))
  refine eALoadN X2 hx (hb hby own_d10_10) rfl rfl rfl ?_
  refine eGetF X2 hx hZ hown (hw _ (List.mem_of_getElem? (i := 47) rfl)) Via.refl e2 Fs (hb hby own_d10_11) rfl (fun T3 X3 e3 => ?_)
  refine eALoadN X3 hx (hb hby own_d10_14) rfl rfl rfl ?_
  refine eGetF X3 hx hZ hown (hw _ (List.mem_of_getElem? (i := 64) rfl)) Via.refl e3 Fd (hb hby own_d10_15) rfl (fun T4 X4 e4 => ?_)
  refine eIALoad X4 hx hZ e4 AS c0 hr hi (hb hby own_d10_18) rfl ?_
  refine eIStoreN X4 hx (hb hby own_d10_19) (L' := #[.val (.ref a1), .val (.int c0)]) rfl rfl ?_
  have LP : ∀ (t k : Nat) (i : Int32) (ps1 us1 : List Value) (hL : Heap) (T9 : State) (locs9 : List Loc), k + t = nc → i.toInt = k → n0' ≤ k → ps1.length = 16 → us1.length = 16 → (∀ q, q < n0' → ps1[q]? = ps[q]? ∧ us1[q]? = us[q]?) → Stand p l e RM10 s m #[(.ref a1)] below meth c T9 locs9 0 0 → Fr n0 locs9 → T9.heap = hL → n0 ≤ hL.size → Keep h0 hL [a1, pa, ua, sa] → Nsp Z hL a1 pa ua sa ps1 us1 ss cnt (dep - 1) → Ends p e below (PostQ s 0 0 (fun v h L => Fr n0 L ∧ Keep h0 h [a1, pa, ua, sa] ∧ v = none ∧ ∃ ps' us' : List Value, ps'.length = 16 ∧ us'.length = 16 ∧ (∀ q, q < n0' → ps'[q]? = ps[q]? ∧ us'[q]? = us[q]?) ∧ Nsp Z h a1 pa ua sa ps' us' ss c0 (dep - 1))) T9 m 20 #[.val (.ref a1), .val (.int i)] [] := by
    intro t
    induction t with
    | zero =>
      intro k i ps1 us1 hL T9 locs9 hk hik h0k hp1 hu1 hag X9 N9 e9 Z9 K9 Hn
      obtain ⟨En, Fp, Fu, Fs, Fc, Fd, RP, RU, AS, Ep, Eu, Es, -⟩ := Hn
      refine eILoadN X9 hx (hb hby own_d10_20) rfl rfl ?_
      refine eALoadN X9 hx (hb hby own_d10_21) rfl rfl rfl ?_
      refine eGetF X9 hx hZ hown (hw _ (List.mem_of_getElem? (i := 56) rfl)) Via.refl e9 Fc (hb hby own_d10_22) rfl (fun T5 X5 e5 => ?_)
      refine eIcmpY X5 hx (hb hby own_d10_25) (flt (by rw [Int32.lt_iff_toInt_lt]; omega)).2.1 (by decide) (pc' := 48) rfl ?_
      refine eALoadN X5 hx (hb hby own_d10_48) rfl rfl rfl ?_
      refine eALoadN X5 hx (hb hby own_d10_49) rfl rfl rfl ?_
      refine eGetF X5 hx hZ hown (hw _ (List.mem_of_getElem? (i := 47) rfl)) Via.refl e5 Fs (hb hby own_d10_50) rfl (fun T6 X6 e6 => ?_)
      refine eALoadN X6 hx (hb hby own_d10_53) rfl rfl rfl ?_
      refine eGetF X6 hx hZ hown (hw _ (List.mem_of_getElem? (i := 64) rfl)) Via.refl e6 Fd (hb hby own_d10_54) rfl (fun T7 X7 e7 => ?_)
      refine eIALoad X7 hx hZ e7 AS c0 hr hi (hb hby own_d10_57) rfl ?_
      refine ePutF X7 hx hZ hown (hw _ (List.mem_of_getElem? (i := 56) rfl)) Via.refl e7 Fc En (Or.inl (hw _ (List.mem_of_getElem? (i := 57) rfl))) (hw _ (List.mem_of_getElem? (i := 34) rfl)) (ty := .int) (by decide) rfl rfl (hb hby own_d10_58) rfl (fun T8 h8 X8 e8 W8 => ?_)
      have N8 := Fr.snoc X8 N9 g1
      have Z8 := Nat.le_trans Z9 (Keep.of_wr W8).1
      have En := En.wr W8
      have Ep := Ep.wr W8
      have Eu := Eu.wr W8
      have Es := Es.wr W8
      have Fp := Fp.other W8 (Or.inr (slot_ne (Or.inl (hw _ (List.mem_of_getElem? (i := 43) rfl))) (Or.inl (hw _ (List.mem_of_getElem? (i := 57) rfl))) (by decide) (t := (.array (.object "java/lang/String"))) (t' := .int) (by decide) (by decide)))
      have Fu := Fu.other W8 (Or.inr (slot_ne (Or.inl (hw _ (List.mem_of_getElem? (i := 45) rfl))) (Or.inl (hw _ (List.mem_of_getElem? (i := 57) rfl))) (by decide) (t := (.array (.object "java/lang/String"))) (t' := .int) (by decide) (by decide)))
      have Fs := Fs.other W8 (Or.inr (slot_ne (Or.inl (hw _ (List.mem_of_getElem? (i := 48) rfl))) (Or.inl (hw _ (List.mem_of_getElem? (i := 57) rfl))) (by decide) (t := (.array .int)) (t' := .int) (by decide) (by decide)))
      have Fc := Fc.same W8
      have Fd := Fd.other W8 (Or.inr (slot_ne (Or.inl (hw _ (List.mem_of_getElem? (i := 65) rfl))) (Or.inl (hw _ (List.mem_of_getElem? (i := 57) rfl))) (by decide) (t := .int) (t' := .int) (by decide) (by decide)))
      have RP := RP.other W8 (Ne.symm nap)
      have RU := RU.other W8 (Ne.symm nau)
      have AS := AS.other W8 (Ne.symm nas)
      have K8 : Keep h0 h8 [a1, pa, ua, sa] := K9.wr W8 (Or.inl (List.mem_of_getElem? (i := 0) rfl))
      exact eRetV X8 hx Bd.returns hlk (hb hby own_d10_61) (by decide) (by decide) (by rw [e8]; exact ⟨N8, K8, rfl, ps1, us1, hp1, hu1, hag, ⟨En, Fp, Fu, Fs, Fc, Fd, RP, RU, AS, Ep, Eu, Es, npu⟩⟩)
    | succ t ih =>
      intro k i ps1 us1 hL T9 locs9 hk hik h0k hp1 hu1 hag X9 N9 e9 Z9 K9 Hn
      obtain ⟨En, Fp, Fu, Fs, Fc, Fd, RP, RU, AS, Ep, Eu, Es, -⟩ := Hn
      refine eILoadN X9 hx (hb hby own_d10_20) rfl rfl ?_
      refine eALoadN X9 hx (hb hby own_d10_21) rfl rfl rfl ?_
      refine eGetF X9 hx hZ hown (hw _ (List.mem_of_getElem? (i := 56) rfl)) Via.refl e9 Fc (hb hby own_d10_22) rfl (fun T9 X9 e9 => ?_)
      refine eIcmpN X9 hx (hb hby own_d10_25) (tlt (by rw [Int32.lt_iff_toInt_lt]; omega)).2.1 rfl ?_
      have ci := own_cl hik
      refine eALoadN X9 hx (hb hby own_d10_28) rfl rfl rfl ?_
      refine eGetF X9 hx hZ hown (hw _ (List.mem_of_getElem? (i := 42) rfl)) Via.refl e9 Fp (hb hby own_d10_29) rfl (fun T10 X10 e10 => ?_)
      refine eILoadN X10 hx (hb hby own_d10_32) rfl rfl ?_
      refine eNull X10 hx (hb hby own_d10_33) rfl ?_
      refine eAAStore X10 hx hZ e10 RP (Or.inl rfl) ⟨own_nn hik, by omega⟩ (hb hby own_d10_34) rfl (fun T11 h11 X11 e11 W11 A11 => ?_)
      have N11 := Fr.snoc X11 N9 g2
      have Z11 := Nat.le_trans Z9 (Keep.of_wr W11).1
      have En := En.wr W11
      have Ep := Ep.wr W11
      have Eu := Eu.wr W11
      have Es := Es.wr W11
      have Fp := Fp.other W11 (Or.inl nap)
      have Fu := Fu.other W11 (Or.inl nap)
      have Fs := Fs.other W11 (Or.inl nap)
      have Fc := Fc.other W11 (Or.inl nap)
      have Fd := Fd.other W11 (Or.inl nap)
      have RU := RU.other W11 (Ne.symm npu)
      have AS := AS.other W11 (Ne.symm nps)
      have RP := A11
      have K11 : Keep h0 h11 [a1, pa, ua, sa] := K9.wr W11 (Or.inl (List.mem_of_getElem? (i := 1) rfl))
      refine eALoadN X11 hx (hb hby own_d10_35) rfl rfl rfl ?_
      refine eGetF X11 hx hZ hown (hw _ (List.mem_of_getElem? (i := 44) rfl)) Via.refl e11 Fu (hb hby own_d10_36) rfl (fun T12 X12 e12 => ?_)
      refine eILoadN X12 hx (hb hby own_d10_39) rfl rfl ?_
      refine eNull X12 hx (hb hby own_d10_40) rfl ?_
      refine eAAStore X12 hx hZ e12 RU (Or.inl rfl) ⟨own_nn hik, by omega⟩ (hb hby own_d10_41) rfl (fun T13 h13 X13 e13 W13 A13 => ?_)
      have N13 := Fr.snoc X13 N11 g3
      have Z13 := Nat.le_trans Z11 (Keep.of_wr W13).1
      have En := En.wr W13
      have Ep := Ep.wr W13
      have Eu := Eu.wr W13
      have Es := Es.wr W13
      have Fp := Fp.other W13 (Or.inl nau)
      have Fu := Fu.other W13 (Or.inl nau)
      have Fs := Fs.other W13 (Or.inl nau)
      have Fc := Fc.other W13 (Or.inl nau)
      have Fd := Fd.other W13 (Or.inl nau)
      have RP := RP.other W13 npu
      have AS := AS.other W13 (Ne.symm nus)
      have RU := A13
      have K13 : Keep h0 h13 [a1, pa, ua, sa] := K11.wr W13 (Or.inl (List.mem_of_getElem? (i := 2) rfl))
      refine eIInc X13 hx (1 : Int32) (hb hby own_d10_42) rfl rfl (L' := #[.val (.ref a1), .val (.int (i + (1 : Int32)))]) rfl rfl ?_
      refine eGoto X13 hx (hb hby own_d10_45) (by decide) (pc' := 20) rfl ?_
      refine ih (k + 1) (i + 1) _ _ _ _ _ (by omega) (own_inc hik (by omega) (by omega : nc < 2 ^ 31)) (by omega) (by simpa using hp1) (by simpa using hu1) (fun q c => ?_) X13 N13 e13 Z13 K13 ⟨En, Fp, Fu, Fs, Fc, Fd, RP, RU, AS, Ep, Eu, Es, npu⟩
      rw [ci, List.getElem?_set_ne (by omega), List.getElem?_set_ne (by omega)]; exact hag q c
  exact LP (nc - n0') n0' c0 ps us _ _ _ (by omega) h00 (Nat.le_refl _) hp hu (fun q c => ⟨rfl, rfl⟩) X4 N2 e4 Z2 K2 ⟨En, Fp, Fu, Fs, Fc, Fd, RP, RU, AS, Ep, Eu, Es, npu⟩
theorem own_d11_0 : decode prog_110_method_5_code 0 = .ok (.aload_n 0, 1) := by decide +kernel
theorem own_d11_1 : decode prog_110_method_5_code 1 = .ok (.getfield 44, 3) := by decide +kernel
theorem own_d11_4 : decode prog_110_method_5_code 4 = .ok (.iconst 1, 1) := by decide +kernel
theorem own_d11_5 : decode prog_110_method_5_code 5 = .ok (.isub, 1) := by decide +kernel
theorem own_d11_6 : decode prog_110_method_5_code 6 = .ok (.istore_n 2, 1) := by decide +kernel
theorem own_d11_7 : decode prog_110_method_5_code 7 = .ok (.iload_n 2, 1) := by decide +kernel
theorem own_d11_8 : decode prog_110_method_5_code 8 = .ok (.ifCond .lt 29, 3) := by decide +kernel
theorem own_d11_37 : decode prog_110_method_5_code 37 = .ok (.aconst_null, 1) := by decide +kernel
theorem own_d11_38 : decode prog_110_method_5_code 38 = .ok (.areturn, 1) := by decide +kernel
theorem own_d11_11 : decode prog_110_method_5_code 11 = .ok (.aload_n 0, 1) := by decide +kernel
theorem own_d11_12 : decode prog_110_method_5_code 12 = .ok (.getfield 9, 3) := by decide +kernel
theorem own_d11_15 : decode prog_110_method_5_code 15 = .ok (.iload_n 2, 1) := by decide +kernel
theorem own_d11_16 : decode prog_110_method_5_code 16 = .ok (.aaload, 1) := by decide +kernel
theorem own_d11_17 : decode prog_110_method_5_code 17 = .ok (.aload_n 1, 1) := by decide +kernel
theorem own_d11_18 : decode prog_110_method_5_code 18 = .ok (.invokevirtual 51, 3) := by decide +kernel
theorem own_d11_21 : decode prog_110_method_5_code 21 = .ok (.ifCond .eq 10, 3) := by decide +kernel
theorem own_d11_24 : decode prog_110_method_5_code 24 = .ok (.aload_n 0, 1) := by decide +kernel
theorem own_d11_25 : decode prog_110_method_5_code 25 = .ok (.getfield 15, 3) := by decide +kernel
theorem own_d11_28 : decode prog_110_method_5_code 28 = .ok (.iload_n 2, 1) := by decide +kernel
theorem own_d11_29 : decode prog_110_method_5_code 29 = .ok (.aaload, 1) := by decide +kernel
theorem own_d11_30 : decode prog_110_method_5_code 30 = .ok (.areturn, 1) := by decide +kernel
theorem own_d11_31 : decode prog_110_method_5_code 31 = .ok (.iinc 2 (-1), 3) := by decide +kernel
theorem own_d11_34 : decode prog_110_method_5_code 34 = .ok (.goto (-27), 3) := by decide +kernel
def RM11 : Room := { frames := 2, cells := 0, slots := 0, locals := 28 }
theorem own_ef11 (m : MethodId) (a1 : Addr) (a2 : Addr) : entryFrame m #[(.ref a1), (.ref a2)] 3 = mkF m 0 #[.val (.ref a1), .val (.ref a2), .unset] [] := by first | (simp [entryFrame, mkF, argsToLocals, Value.category]; done) | rfl
set_option maxRecDepth 65536 in
set_option maxHeartbeats 40000000 in
theorem rm11 (l : Launch) (Z : State) (a0 : Array Value) (hw : ∀ d ∈ tables_1, d.before a0 Z = true) (ws : List Jvm.Cond) (a1 a2 : Addr) (pa ua sa : Addr) (ps us : List Value) (ss : List Int32) (cnt dep : Int32) (cts : List (List Int32 × List Int32)) (ys : List Int32) (h0 : Heap) (n0 : Nat) (Z0 : n0 ≤ h0.size) (Hn : Nsp Z h0 a1 pa ua sa ps us ss cnt dep) (G : Gd Z h0) (S2 : Str Z h0 a2 ys) (TB : Tab Z h0 ps us cts) (hcn : cnt.toInt = cts.length) (hle : cts.length ≤ 16) : MetQ l Z (⟨"com/example/shapelint/shapelint/reader/Namespaces", "getNamespaceURI", "(Ljava/lang/String;)Ljava/lang/String;"⟩ : MethodName) (Jvm.Cond.code (⟨"com/example/shapelint/shapelint/reader/Namespaces", "getNamespaceURI", "(Ljava/lang/String;)Ljava/lang/String;"⟩ : MethodName) prog_110_method_5_code 3 (some (.object "java/lang/String")) :: ws) RM11 #[(.ref a1), (.ref a2)] h0 (fun v h L => Fr n0 L ∧ h = h0 ∧ ∃ w, v = some w ∧ Cont Z h0 w (look cts ys)) := by
  refine MetFree.of_bodySF (plainFor_of_name own_pn3) hisR ?_
  intro p e s m args below meth c s₁ Bd hml0 hP hK
  obtain ⟨rfl, hZ, hh⟩ := hP
  have hx := Bd.exec
  have hby := Bd.bytes
  have hml : c.maxLocals = 3 := hml0
  have hown : s.vm.findClass "com/example/shapelint/shapelint/reader/Namespaces" = some m.cls := findClass_of_methodNamed Bd.named
  have hnm := (name_of_methodNamed Bd.named Bd.method).1
  have hlk : meth.locks = false := BodyLoose.notSynchronized Bd
  have X0 : Stand p l e RM11 s m #[(.ref a1), (.ref a2)] below meth c s₁ [] 0 0 := Stand.of_body Bd
  have e0 : s₁.heap = h0 := by rw [← hh, Bd.state]; rfl
  have N0 := Fr.nil n0
  suffices kk : Ends p e below (PostQ s 0 0 (fun v h L => Fr n0 L ∧ h = h0 ∧ ∃ w, v = some w ∧ Cont Z h0 w (look cts ys))) s₁ m 0 #[.val (.ref a1), .val (.ref a2), .unset] [] by
    obtain ⟨t, o, k1, k2, k3, k4⟩ := kk
    exact ⟨t, o, castTop (own_ef11 m a1 a2) k1, k2, k3, k4⟩
  obtain ⟨En, Fp, Fu, Fs, Fc, Fd, RP, RU, AS, Ep, Eu, Es, npu⟩ := Hn
  refine eALoadN X0 hx (hb hby own_d11_0) rfl rfl rfl ?_
  refine eGetF X0 hx hZ hown (hw _ (List.mem_of_getElem? (i := 56) rfl)) Via.refl e0 Fc (hb hby own_d11_1) rfl (fun T1 X1 e1 => ?_)
  refine eIConst X1 hx (1 : Int32) (hb hby own_d11_4) rfl rfl ?_
  refine eISub X1 hx (hb hby own_d11_5) rfl ?_
  refine eIStoreN X1 hx (hb hby own_d11_6) (L' := #[.val (.ref a1), .val (.ref a2), .val (.int (cnt - (1 : Int32)))]) rfl rfl ?_
  have LP : ∀ (k : Nat) (i : Int32) (T9 : State) (locs9 : List Loc), k ≤ cts.length → i.toInt = (k : Int) - 1 → Stand p l e RM11 s m #[(.ref a1), (.ref a2)] below meth c T9 locs9 0 0 → Fr n0 locs9 → T9.heap = h0 → Ends p e below (PostQ s 0 0 (fun v h L => Fr n0 L ∧ h = h0 ∧ ∃ w, v = some w ∧ Cont Z h0 w (look (cts.take k) ys))) T9 m 7 #[.val (.ref a1), .val (.ref a2), .val (.int i)] [] := by
    intro k
    induction k with
    | zero =>
      intro i T9 locs9 hk hi X9 N9 e9
      refine eILoadN X9 hx (hb hby own_d11_7) rfl rfl ?_
      refine eIfY X9 hx (hb hby own_d11_8) ((if0 _ _).trans (tlt (by rw [Int32.lt_iff_toInt_lt]; simp only [Int32.reduceToInt]; omega)).1) (by decide) (pc' := 37) rfl ?_
      refine eNull X9 hx (hb hby own_d11_37) rfl ?_
      exact eRetA X9 hx Bd.returns rfl rfl rfl hlk (hb hby own_d11_38) (by decide) (by decide) ⟨N9, e9, .null, rfl, Or.inl ⟨rfl, rfl⟩⟩
    | succ k ih =>
      intro i T9 locs9 hk hi X9 N9 e9
      refine eILoadN X9 hx (hb hby own_d11_7) rfl rfl ?_
      have hik : i.toInt = (k : Nat) := by omega
      obtain ⟨x, u, hx1, hu1, Sx, Su⟩ := TB k (by omega)
      refine eIfN X9 hx (hb hby own_d11_8) ((if0 _ _).trans (flt (own_nn hik)).1) rfl ?_
      refine eALoadN X9 hx (hb hby own_d11_11) rfl rfl rfl ?_
      refine eGetF X9 hx hZ hown (hw _ (List.mem_of_getElem? (i := 42) rfl)) Via.refl e9 Fp (hb hby own_d11_12) rfl (fun T2 X2 e2 => ?_)
      refine eILoadN X2 hx (hb hby own_d11_15) rfl rfl ?_
      refine eAALoad X2 hx hZ e2 RP (.ref x) (by rw [own_cl hik]; exact hx1) rfl (own_nn hik) (hb hby own_d11_16) rfl ?_
      refine eALoadN X2 hx (hb hby own_d11_17) rfl rfl rfl ?_
      refine eCallV X2 hx hZ (y := (⟨"java/lang/String", "equals", "(Ljava/lang/Object;)Z"⟩ : MethodName)) hown (hw _ (List.mem_of_getElem? (i := 77) rfl)) (hw _ (List.mem_of_getElem? (i := 78) rfl)) (hw _ (List.mem_of_getElem? (i := 80) rfl)) (hw _ (List.mem_of_getElem? (i := 79) rfl)) (hw _ (List.mem_of_getElem? (i := 5) rfl)) (hw _ (List.mem_of_getElem? (i := 81) rfl)) (by decide) e2 Sx.1 (rm12 l Z a0 hw [] x a2 (cts[k]).1 ys h0 n0 Z0 G Sx S2) (argsL := [(.ref a2)]) (rest := []) (lenOf own_pd4 rfl) rfl (by rw [hml]; rfl) 0 (by exact Nat.le_refl _) (by decide) (by decide) (by decide) (by decide) (hb hby own_d11_18) rfl (fun v3 T3 L3 q3 (X3 : Stand _ _ _ _ _ _ _ _ _ _ T3 _ 0 0)  => ?_)
      obtain ⟨N3', e3, rfl⟩ := q3
      have N3 := Fr.app N9 N3'
      show Ends p e below _ T3 m 21 #[.val (.ref a1), .val (.ref a2), .val (.int i)] [(.int (if (cts[k]).1 = ys then 1 else 0))]
      rw [look_succ (by omega : k < cts.length)]
      by_cases hxy : (cts[k]).1 = ys
      · rw [if_pos hxy, if_pos hxy]
        refine eIfN X3 hx (hb hby own_d11_21) ((if0 _ _).trans (feq (by decide : ¬ (1 : Int32) = 0)).1) rfl ?_
        refine eALoadN X3 hx (hb hby own_d11_24) rfl rfl rfl ?_
        refine eGetF X3 hx hZ hown (hw _ (List.mem_of_getElem? (i := 44) rfl)) Via.refl e3 Fu (hb hby own_d11_25) rfl (fun T4 X4 e4 => ?_)
        refine eILoadN X4 hx (hb hby own_d11_28) rfl rfl ?_
        refine eAALoad X4 hx hZ e4 RU (.ref u) (by rw [own_cl hik]; exact hu1) rfl (own_nn hik) (hb hby own_d11_29) rfl ?_
        exact eRetA X4 hx Bd.returns rfl rfl rfl hlk (hb hby own_d11_30) (by decide) (by decide) ⟨N3, e4, .ref u, rfl, Or.inr ⟨u, _, rfl, Su, rfl⟩⟩
      · rw [if_neg hxy, if_neg hxy]
        refine eIfY X3 hx (hb hby own_d11_21) ((if0 _ _).trans (teq rfl).1) (by decide) (pc' := 31) rfl ?_
        refine eIInc X3 hx (-1 : Int32) (hb hby own_d11_31) rfl rfl (L' := #[.val (.ref a1), .val (.ref a2), .val (.int (i + (-1 : Int32)))]) rfl rfl ?_
        refine eGoto X3 hx (hb hby own_d11_34) (by decide) (pc' := 7) rfl ?_
        exact ih (i + -1) _ _ (by omega) (own_dec hik (by omega) (by omega : 17 < 2 ^ 31)) X3 N3 e3
  have q := LP cts.length (cnt - 1) _ _ (Nat.le_refl _) (by have h := c_isub cnt 1; have r := rng32 (cnt - 1); simp only [Int32.reduceToInt] at *; omega) X1 N0 e1
  rw [List.take_length] at q
  exact q
theorem own_d1_0 : decode method_2_code 0 = .ok (.iload_n 0, 1) := by decide +kernel
theorem own_d1_1 : decode method_2_code 1 = .ok (.bipush 8, 2) := by decide +kernel
theorem own_d1_3 : decode method_2_code 3 = .ok (.iushr, 1) := by decide +kernel
theorem own_d1_4 : decode method_2_code 4 = .ok (.iconst 3, 1) := by decide +kernel
theorem own_d1_5 : decode method_2_code 5 = .ok (.iand, 1) := by decide +kernel
theorem own_d1_6 : decode method_2_code 6 = .ok (.istore_n 1, 1) := by decide +kernel
theorem own_d1_7 : decode method_2_code 7 = .ok (.iload_n 1, 1) := by decide +kernel
theorem own_d1_8 : decode method_2_code 8 = .ok (.ifCond .ne 6, 3) := by decide +kernel
theorem own_d1_11 : decode method_2_code 11 = .ok (.ldc 7, 2) := by decide +kernel
theorem own_d1_13 : decode method_2_code 13 = .ok (.areturn, 1) := by decide +kernel
theorem own_d1_14 : decode method_2_code 14 = .ok (.iload_n 1, 1) := by decide +kernel
theorem own_d1_15 : decode method_2_code 15 = .ok (.iconst 1, 1) := by decide +kernel
theorem own_d1_16 : decode method_2_code 16 = .ok (.if_icmp .ne 6, 3) := by decide +kernel
theorem own_d1_19 : decode method_2_code 19 = .ok (.ldc 9, 2) := by decide +kernel
theorem own_d1_21 : decode method_2_code 21 = .ok (.areturn, 1) := by decide +kernel
theorem own_d1_22 : decode method_2_code 22 = .ok (.iload_n 0, 1) := by decide +kernel
theorem own_d1_23 : decode method_2_code 23 = .ok (.sipush 255, 3) := by decide +kernel
theorem own_d1_26 : decode method_2_code 26 = .ok (.iand, 1) := by decide +kernel
theorem own_d1_27 : decode method_2_code 27 = .ok (.i2c, 1) := by decide +kernel
theorem own_pd5 : parseMethodDescriptor "(C)Ljava/lang/String;" = some ⟨[.char], some (.object "java/lang/String")⟩ := by decide +kernel
theorem own_d1_28 : decode method_2_code 28 = .ok (.invokestatic 11, 3) := by decide +kernel
theorem own_d1_31 : decode method_2_code 31 = .ok (.areturn, 1) := by decide +kernel
def RM1 : Room := { frames := 3, cells := 2, slots := 16, locals := 39 }
theorem own_ef1 (m : MethodId) (p1 : Int32) : entryFrame m #[(.int p1)] 2 = mkF m 0 #[.val (.int p1), .unset] [] := by first | (simp [entryFrame, mkF, argsToLocals, Value.category]; done) | rfl
set_option maxRecDepth 65536 in
set_option maxHeartbeats 40000000 in
theorem rm1 (l : Launch) (Z : State) (a0 : Array Value) (hw : ∀ d ∈ tables_1, d.before a0 Z = true) (ws : List Jvm.Cond) (p1 : Int32) (h0 : Heap) (n0 : Nat) (Z0 : n0 ≤ h0.size) (G : Gd Z h0) : MetW l Z own_cs (⟨"com/example/shapelint/shapelint/reader/NamespacesClosePinLaw", "prefix", "(I)Ljava/lang/String;"⟩ : MethodName) (Jvm.Cond.code (⟨"com/example/shapelint/shapelint/reader/NamespacesClosePinLaw", "prefix", "(I)Ljava/lang/String;"⟩ : MethodName) method_2_code 2 (some (.object "java/lang/String")) :: ws) RM1 #[(.int p1)] h0 (fun v h vm L => Fr n0 L ∧ Ext h0 h ∧ HB Z own_cs vm h ∧ ∃ (a : Addr) (bs : List Int32), v = some (.ref a) ∧ Str Z h a bs) := by
  refine MetFree.of_bodySF (plainFor_of_name own_pn2) hisR ?_
  intro p e s m args below meth c s₁ Bd hml0 hP hK
  obtain ⟨rfl, hZ, hh, HB0⟩ := hP
  have hx := Bd.exec
  have hby := Bd.bytes
  have hml : c.maxLocals = 2 := hml0
  have hown : s.vm.findClass "com/example/shapelint/shapelint/reader/NamespacesClosePinLaw" = some m.cls := findClass_of_methodNamed Bd.named
  have hnm := (name_of_methodNamed Bd.named Bd.method).1
  have hlk : meth.locks = false := BodyLoose.notSynchronized Bd
  have X0 : Stand p l e RM1 (s.setVm s.vm) m #[(.int p1)] below meth c s₁ [] 0 0 := Stand.of_body Bd
  have e0 : s₁.heap = h0 := by rw [← hh, Bd.state]; rfl
  have N0 := Fr.nil n0
  have hLk := own_lnk hw
  have hSA := own_sa hw
  have hS0 : s.Since s.vm h0.size := (State.WarmedH.refl s).since _
  have hk0 : h0.size ≤ h0.size := Nat.le_refl _
  suffices kk : Ends p e below (PostW s 2 16 (fun v h vm L => Fr n0 L ∧ Ext h0 h ∧ HB Z own_cs vm h ∧ ∃ (a : Addr) (bs : List Int32), v = some (.ref a) ∧ Str Z h a bs)) s₁ m 0 #[.val (.int p1), .unset] [] by
    obtain ⟨t, o, k1, k2, k3, k4⟩ := kk
    exact ⟨t, o, castTop (own_ef1 m p1) k1, k2, k3, k4⟩
  refine eILoadN X0 hx (hb hby own_d1_0) rfl rfl ?_
  refine eBipush X0 hx (8 : Int32) (hb hby own_d1_1) rfl rfl ?_
  refine eIUshr X0 hx (hb hby own_d1_3) rfl ?_
  refine eIConst X0 hx (3 : Int32) (hb hby own_d1_4) rfl rfl ?_
  refine eIAnd X0 hx (hb hby own_d1_5) rfl ?_
  refine eIStoreN X0 hx (hb hby own_d1_6) (L' := #[.val (.int p1), .val (.int (((p1.toUInt32 >>> ((8 : Int32) &&& 31).toUInt32).toInt32) &&& (3 : Int32)))]) rfl rfl ?_
  refine eILoadN X0 hx (hb hby own_d1_7) rfl rfl ?_
  by_cases hk : (((p1.toUInt32 >>> ((8 : Int32) &&& 31).toUInt32).toInt32) &&& (3 : Int32)) = 0
  · skip
    refine eIfN X0 hx (hb hby own_d1_8) ((if0 _ _).trans (teq hk).2) rfl ?_
    refine eLdc X0 hx hZ hown hLk hSA (own := "com/example/shapelint/shapelint/reader/NamespacesClosePinLaw") (index := 7) (text := "") (List.mem_of_getElem? (i := 0) rfl) e0 hS0 hk0 HB0 (bs := []) own_tx_0 (hb hby own_d1_11) 0 (by decide) (by decide) (by decide) (by decide) rfl (fun a1 T1 (X1 : Stand _ _ _ _ _ _ _ _ _ _ T1 _ 2 4) S1 V1 O1 E1 H1 Q1 => ?_)
    have Z1 := Nat.le_trans Z0 E1.1
    exact eRetAW X1 hx S1 (Nat.le_refl _) Bd.returns rfl rfl rfl hlk (hb hby own_d1_13) (by decide) (by decide) ⟨N0, E1, H1, a1, _, rfl, Q1⟩
  · skip
    refine eIfY X0 hx (hb hby own_d1_8) ((if0 _ _).trans (feq hk).2) (by decide) (pc' := 14) rfl ?_
    refine eILoadN X0 hx (hb hby own_d1_14) rfl rfl ?_
    refine eIConst X0 hx (1 : Int32) (hb hby own_d1_15) rfl rfl ?_
    by_cases h2 : (((p1.toUInt32 >>> ((8 : Int32) &&& 31).toUInt32).toInt32) &&& (3 : Int32)) = 1
    · skip
      refine eIcmpN X0 hx (hb hby own_d1_16) (teq h2).2 rfl ?_
      refine eLdc X0 hx hZ hown hLk hSA (own := "com/example/shapelint/shapelint/reader/NamespacesClosePinLaw") (index := 9) (text := "xml") (List.mem_of_getElem? (i := 1) rfl) e0 hS0 hk0 HB0 (bs := bXml) own_tx_3 (hb hby own_d1_19) 12 (by decide) (by decide) (by decide) (by decide) rfl (fun a2 T2 (X2 : Stand _ _ _ _ _ _ _ _ _ _ T2 _ 2 16) S2 V2 O2 E2 H2 Q2 => ?_)
      have Z2 := Nat.le_trans Z0 E2.1
      exact eRetAW X2 hx S2 (Nat.le_refl _) Bd.returns rfl rfl rfl hlk (hb hby own_d1_21) (by decide) (by decide) ⟨N0, E2, H2, a2, _, rfl, Q2⟩
    · skip
      refine eIcmpY X0 hx (hb hby own_d1_16) (feq h2).2 (by decide) (pc' := 22) rfl ?_
      refine eILoadN X0 hx (hb hby own_d1_22) rfl rfl ?_
      refine eSipush X0 hx (255 : Int32) (hb hby own_d1_23) rfl rfl ?_
      refine eIAnd X0 hx (hb hby own_d1_26) rfl ?_
      refine eI2C X0 hx (hb hby own_d1_27) rfl ?_
      refine eCallS X0 hx hZ (y := (⟨"java/lang/String", "valueOf", "(C)Ljava/lang/String;"⟩ : MethodName)) hown (hw _ (List.mem_of_getElem? (i := 12) rfl)) (hw _ (List.mem_of_getElem? (i := 13) rfl)) (hw _ (List.mem_of_getElem? (i := 5) rfl)) (hw _ (List.mem_of_getElem? (i := 14) rfl)) (by decide) e0 (rm2 l Z a0 hw [] _ h0 n0 Z0 G (own_ch p1)) (argsL := [(.int ((p1 &&& (255 : Int32)).toUInt32.toUInt16.toUInt32.toInt32))]) (rest := []) (lenOf own_pd5 rfl) rfl (by rw [hml]; rfl) 0 (by exact Nat.le_refl _) (by decide) (by decide) (by decide) (by decide) (hb hby own_d1_28) rfl (fun v3 T3 L3 q3 (X3 : Stand _ _ _ _ _ _ _ _ _ _ T3 _ 2 5)  => ?_)
      obtain ⟨N3', E3, a, bs, rfl, Q3⟩ := q3
      show Ends p e below _ T3 m 31 #[.val (.int p1), .val (.int (((p1.toUInt32 >>> ((8 : Int32) &&& 31).toUInt32).toInt32) &&& (3 : Int32)))] [(.ref a)]
      have H3 := (HB0.keep hLk hZ (Keep.of_ext E3) Oth.nil).warm hLk hZ X3.warmed
      exact eRetAW X3 hx hS0 E3.1 Bd.returns rfl rfl rfl hlk (hb hby own_d1_31) (by decide) (by decide) ⟨Fr.app N0 N3', E3, H3, a, bs, rfl, Q3⟩
theorem own_d13_14 : decode method_3_code 14 = .ok (.aload_n 3, 1) := by decide +kernel
theorem own_d13_15 : decode method_3_code 15 = .ok (.ldc 9, 2) := by decide +kernel
theorem own_d13_17 : decode method_3_code 17 = .ok (.invokevirtual 17, 3) := by decide +kernel
theorem own_d13_20 : decode method_3_code 20 = .ok (.ifCond .eq 6, 3) := by decide +kernel
theorem own_d13_23 : decode method_3_code 23 = .ok (.ldc 21, 2) := by decide +kernel
theorem own_d13_25 : decode method_3_code 25 = .ok (.areturn, 1) := by decide +kernel
theorem own_d13_26 : decode method_3_code 26 = .ok (.aload_n 3, 1) := by decide +kernel
theorem own_pd6 : parseMethodDescriptor "()Z" = some ⟨[], some .boolean⟩ := by decide +kernel
theorem own_d13_27 : decode method_3_code 27 = .ok (.invokevirtual 23, 3) := by decide +kernel
theorem own_d13_30 : decode method_3_code 30 = .ok (.ifCond .eq 6, 3) := by decide +kernel
theorem own_d13_33 : decode method_3_code 33 = .ok (.ldc 7, 2) := by decide +kernel
theorem own_d13_35 : decode method_3_code 35 = .ok (.areturn, 1) := by decide +kernel
theorem own_d13_36 : decode method_3_code 36 = .ok (.aconst_null, 1) := by decide +kernel
theorem own_d13_37 : decode method_3_code 37 = .ok (.areturn, 1) := by decide +kernel
theorem own_d13_0 : decode method_3_code 0 = .ok (.iload_n 0, 1) := by decide +kernel
theorem own_d13_1 : decode method_3_code 1 = .ok (.ifCond .eq 13, 3) := by decide +kernel
theorem own_d13_4 : decode method_3_code 4 = .ok (.aload_n 3, 1) := by decide +kernel
theorem own_d13_5 : decode method_3_code 5 = .ok (.aload_n 1, 1) := by decide +kernel
theorem own_d13_6 : decode method_3_code 6 = .ok (.invokevirtual 17, 3) := by decide +kernel
theorem own_d13_9 : decode method_3_code 9 = .ok (.ifCond .eq 5, 3) := by decide +kernel
theorem own_d13_12 : decode method_3_code 12 = .ok (.aload_n 2, 1) := by decide +kernel
theorem own_d13_13 : decode method_3_code 13 = .ok (.areturn, 1) := by decide +kernel
def RM13 : Room := { frames := 2, cells := 4, slots := 164, locals := 28 }
theorem own_ef13 (m : MethodId) (p1 : Int32) (a2 : Addr) (a3 : Addr) (a4 : Addr) : entryFrame m #[(.int p1), (.ref a2), (.ref a3), (.ref a4)] 4 = mkF m 0 #[.val (.int p1), .val (.ref a2), .val (.ref a3), .val (.ref a4)] [] := by first | (simp [entryFrame, mkF, argsToLocals, Value.category]; done) | rfl
set_option maxRecDepth 65536 in
set_option maxHeartbeats 40000000 in
theorem rm13 (l : Launch) (Z : State) (a0 : Array Value) (hw : ∀ d ∈ tables_1, d.before a0 Z = true) (ws : List Jvm.Cond) (p1 : Int32) (a2 a3 a4 : Addr) (b2 b3 b4 : List Int32) (h0 : Heap) (n0 : Nat) (Z0 : n0 ≤ h0.size) (G : Gd Z h0) (S2 : Str Z h0 a2 b2) (S3 : Str Z h0 a3 b3) (S4 : Str Z h0 a4 b4) : MetW l Z own_cs (⟨"com/example/shapelint/shapelint/reader/NamespacesClosePinLaw", "expected", "(ZLjava/lang/String;Ljava/lang/String;Ljava/lang/String;)Ljava/lang/String;"⟩ : MethodName) (Jvm.Cond.code (⟨"com/example/shapelint/shapelint/reader/NamespacesClosePinLaw", "expected", "(ZLjava/lang/String;Ljava/lang/String;Ljava/lang/String;)Ljava/lang/String;"⟩ : MethodName) method_3_code 4 (some (.object "java/lang/String")) :: ws) RM13 #[(.int p1), (.ref a2), (.ref a3), (.ref a4)] h0 (fun v h vm L => Fr n0 L ∧ Ext h0 h ∧ HB Z own_cs vm h ∧ ∃ w, v = some w ∧ Cont Z h w (own_exp p1 b2 b3 b4)) := by
  refine MetFree.of_bodySF (plainFor_of_name own_pn2) hisR ?_
  intro p e s m args below meth c s₁ Bd hml0 hP hK
  obtain ⟨rfl, hZ, hh, HB0⟩ := hP
  have hx := Bd.exec
  have hby := Bd.bytes
  have hml : c.maxLocals = 4 := hml0
  have hown : s.vm.findClass "com/example/shapelint/shapelint/reader/NamespacesClosePinLaw" = some m.cls := findClass_of_methodNamed Bd.named
  have hnm := (name_of_methodNamed Bd.named Bd.method).1
  have hlk : meth.locks = false := BodyLoose.notSynchronized Bd
  have X0 : Stand p l e RM13 (s.setVm s.vm) m #[(.int p1), (.ref a2), (.ref a3), (.ref a4)] below meth c s₁ [] 0 0 := Stand.of_body Bd
  have e0 : s₁.heap = h0 := by rw [← hh, Bd.state]; rfl
  have N0 := Fr.nil n0
  have hLk := own_lnk hw
  have hSA := own_sa hw
  have hS0 : s.Since s.vm h0.size := (State.WarmedH.refl s).since _
  have hk0 : h0.size ≤ h0.size := Nat.le_refl _
  suffices kk : Ends p e below (PostW s 4 164 (fun v h vm L => Fr n0 L ∧ Ext h0 h ∧ HB Z own_cs vm h ∧ ∃ w, v = some w ∧ Cont Z h w (own_exp p1 b2 b3 b4))) s₁ m 0 #[.val (.int p1), .val (.ref a2), .val (.ref a3), .val (.ref a4)] [] by
    obtain ⟨t, o, k1, k2, k3, k4⟩ := kk
    exact ⟨t, o, castTop (own_ef13 m p1 a2 a3 a4) k1, k2, k3, k4⟩
  have J : ∀ (T9 : State) (locs9 : List Loc), ¬ (p1 ≠ 0 ∧ b4 = b2) → Stand p l e RM13 (s.setVm s.vm) m #[(.int p1), (.ref a2), (.ref a3), (.ref a4)] below meth c T9 locs9 0 0 → Fr n0 locs9 → T9.heap = h0 → Ends p e below (PostW s 4 164 (fun v h vm L => Fr n0 L ∧ Ext h0 h ∧ HB Z own_cs vm h ∧ ∃ w, v = some w ∧ Cont Z h w (own_exp p1 b2 b3 b4))) T9 m 14 #[.val (.int p1), .val (.ref a2), .val (.ref a3), .val (.ref a4)] [] := by
    intro T9 locs9 hno X9 N9 e9
    rw [own_exp, if_neg hno]
    refine eALoadN X9 hx (hb hby own_d13_14) rfl rfl rfl ?_
    refine eLdc X9 hx hZ hown hLk hSA (own := "com/example/shapelint/shapelint/reader/NamespacesClosePinLaw") (index := 9) (text := "xml") (List.mem_of_getElem? (i := 1) rfl) e9 hS0 hk0 HB0 (bs := bXml) own_tx_3 (hb hby own_d13_15) 12 (by decide) (by decide) (by decide) (by decide) rfl (fun a1 T1 (X1 : Stand _ _ _ _ _ _ _ _ _ _ T1 _ 2 16) S1 V1 O1 E1 H1 Q1 => ?_)
    have Z1 := Nat.le_trans Z0 E1.1
    have S4 := S4.ext E1
    have G1 := G.keep (Keep.of_ext E1) Oth.nil
    refine eCallV X1 hx V1 (y := (⟨"java/lang/String", "equals", "(Ljava/lang/Object;)Z"⟩ : MethodName)) O1 (hw _ (List.mem_of_getElem? (i := 85) rfl)) (hw _ (List.mem_of_getElem? (i := 78) rfl)) (hw _ (List.mem_of_getElem? (i := 80) rfl)) (hw _ (List.mem_of_getElem? (i := 79) rfl)) (hw _ (List.mem_of_getElem? (i := 5) rfl)) (hw _ (List.mem_of_getElem? (i := 81) rfl)) (by decide) (rfl : T1.heap = T1.heap) S4.1 (rm12 l Z a0 hw [] a4 a1 b4 bXml T1.heap n0 Z1 G1 S4 Q1) (argsL := [(.ref a1)]) (rest := []) (lenOf own_pd4 rfl) rfl (by rw [hml]; rfl) 0 (by exact Nat.le_refl _) (by decide) (by decide) (by decide) (by decide) (hb hby own_d13_17) rfl (fun v2 T2 L2 q2 (X2 : Stand _ _ _ _ _ _ _ _ _ _ T2 _ 2 16)  => ?_)
    obtain ⟨N2', e2, rfl⟩ := q2
    have N2 := Fr.app N9 N2'
    show Ends p e below _ T2 m 20 #[.val (.int p1), .val (.ref a2), .val (.ref a3), .val (.ref a4)] [(.int (if b4 = bXml then 1 else 0))]
    by_cases hx1 : b4 = bXml
    · rw [if_pos hx1, if_pos hx1]
      refine eIfN X2 hx (hb hby own_d13_20) ((if0 _ _).trans (feq (by decide : ¬ (1 : Int32) = 0)).1) rfl ?_
      refine eLdc X2 hx V1 O1 hLk hSA (own := "com/example/shapelint/shapelint/reader/NamespacesClosePinLaw") (index := 21) (text := "http://www.w3.org/XML/1998/namespace") (List.mem_of_getElem? (i := 2) rfl) e2 S1 (Nat.le_refl _) H1 (bs := bUri) own_tx_36 (hb hby own_d13_23) 144 (by decide) (by decide) (by decide) (by decide) rfl (fun a3 T3 (X3 : Stand _ _ _ _ _ _ _ _ _ _ T3 _ 4 164) S3 V3 O3 E3 H3 Q3 => ?_)
      have Z3 := Nat.le_trans Z1 E3.1
      exact eRetAW X3 hx S3 (Nat.le_refl _) Bd.returns rfl rfl rfl hlk (hb hby own_d13_25) (by decide) (by decide) ⟨N2, own_et E1 E3, H3, .ref a3, rfl, Or.inr ⟨a3, _, rfl, Q3, rfl⟩⟩
    · rw [if_neg hx1, if_neg hx1]
      refine eIfY X2 hx (hb hby own_d13_20) ((if0 _ _).trans (teq rfl).1) (by decide) (pc' := 26) rfl ?_
      refine eALoadN X2 hx (hb hby own_d13_26) rfl rfl rfl ?_
      refine eCallV X2 hx V1 (y := (⟨"java/lang/String", "isEmpty", "()Z"⟩ : MethodName)) O1 (hw _ (List.mem_of_getElem? (i := 93) rfl)) (hw _ (List.mem_of_getElem? (i := 94) rfl)) (hw _ (List.mem_of_getElem? (i := 96) rfl)) (hw _ (List.mem_of_getElem? (i := 95) rfl)) (hw _ (List.mem_of_getElem? (i := 5) rfl)) (hw _ (List.mem_of_getElem? (i := 97) rfl)) (by decide) e2 S4.1 (rm16 l Z a0 hw [] a4 b4 T1.heap n0 Z1 S4) (argsL := []) (rest := []) (lenOf own_pd6 rfl) rfl (by rw [hml]; rfl) 0 (by exact Nat.le_refl _) (by decide) (by decide) (by decide) (by decide) (hb hby own_d13_27) rfl (fun v4 T4 L4 q4 (X4 : Stand _ _ _ _ _ _ _ _ _ _ T4 _ 2 16)  => ?_)
      obtain ⟨N4', e4, rfl⟩ := q4
      have N4 := Fr.app N2 N4'
      show Ends p e below _ T4 m 30 #[.val (.int p1), .val (.ref a2), .val (.ref a3), .val (.ref a4)] [(.int (if b4 = [] then 1 else 0))]
      by_cases hx2 : b4 = []
      · rw [if_pos hx2, if_pos hx2]
        refine eIfN X4 hx (hb hby own_d13_30) ((if0 _ _).trans (feq (by decide : ¬ (1 : Int32) = 0)).1) rfl ?_
        refine eLdc X4 hx V1 O1 hLk hSA (own := "com/example/shapelint/shapelint/reader/NamespacesClosePinLaw") (index := 7) (text := "") (List.mem_of_getElem? (i := 0) rfl) e4 S1 (Nat.le_refl _) H1 (bs := []) own_tx_0 (hb hby own_d13_33) 0 (by decide) (by decide) (by decide) (by decide) rfl (fun a5 T5 (X5 : Stand _ _ _ _ _ _ _ _ _ _ T5 _ 4 20) S5 V5 O5 E5 H5 Q5 => ?_)
        have Z5 := Nat.le_trans Z1 E5.1
        exact eRetAW X5 hx S5 (Nat.le_refl _) Bd.returns rfl rfl rfl hlk (hb hby own_d13_35) (by decide) (by decide) ⟨N4, own_et E1 E5, H5, .ref a5, rfl, Or.inr ⟨a5, _, rfl, Q5, rfl⟩⟩
      · rw [if_neg hx2, if_neg hx2]
        refine eIfY X4 hx (hb hby own_d13_30) ((if0 _ _).trans (teq rfl).1) (by decide) (pc' := 36) rfl ?_
        refine eNull X4 hx (hb hby own_d13_36) rfl ?_
        have H9 := H1.warm hLk V1 X4.warmed
        exact eRetAW X4 hx S1 (by rw [e4]; exact (Nat.le_refl _)) Bd.returns rfl rfl rfl hlk (hb hby own_d13_37) (by decide) (by decide) (by rw [e4]; exact ⟨N4, E1, H9, .null, rfl, Or.inl ⟨rfl, rfl⟩⟩)
  refine eILoadN X0 hx (hb hby own_d13_0) rfl rfl ?_
  by_cases hp1 : p1 = 0
  · skip
    refine eIfY X0 hx (hb hby own_d13_1) ((if0 _ _).trans (teq hp1).1) (by decide) (pc' := 14) rfl ?_
    exact J _ _ (fun q => q.1 hp1) X0 N0 e0
  · skip
    refine eIfN X0 hx (hb hby own_d13_1) ((if0 _ _).trans (feq hp1).1) rfl ?_
    refine eALoadN X0 hx (hb hby own_d13_4) rfl rfl rfl ?_
    refine eALoadN X0 hx (hb hby own_d13_5) rfl rfl rfl ?_
    refine eCallV X0 hx hZ (y := (⟨"java/lang/String", "equals", "(Ljava/lang/Object;)Z"⟩ : MethodName)) hown (hw _ (List.mem_of_getElem? (i := 85) rfl)) (hw _ (List.mem_of_getElem? (i := 78) rfl)) (hw _ (List.mem_of_getElem? (i := 80) rfl)) (hw _ (List.mem_of_getElem? (i := 79) rfl)) (hw _ (List.mem_of_getElem? (i := 5) rfl)) (hw _ (List.mem_of_getElem? (i := 81) rfl)) (by decide) e0 S4.1 (rm12 l Z a0 hw [] a4 a2 b4 b2 h0 n0 Z0 G S4 S2) (argsL := [(.ref a2)]) (rest := []) (lenOf own_pd4 rfl) rfl (by rw [hml]; rfl) 0 (by exact Nat.le_refl _) (by decide) (by decide) (by decide) (by decide) (hb hby own_d13_6) rfl (fun v6 T6 L6 q6 (X6 : Stand _ _ _ _ _ _ _ _ _ _ T6 _ 0 0)  => ?_)
    obtain ⟨N6', e6, rfl⟩ := q6
    have N6 := Fr.app N0 N6'
    show Ends p e below _ T6 m 9 #[.val (.int p1), .val (.ref a2), .val (.ref a3), .val (.ref a4)] [(.int (if b4 = b2 then 1 else 0))]
    by_cases hx1 : b4 = b2
    · rw [if_pos hx1]
      refine eIfN X6 hx (hb hby own_d13_9) ((if0 _ _).trans (feq (by decide : ¬ (1 : Int32) = 0)).1) rfl ?_
      refine eALoadN X6 hx (hb hby own_d13_12) rfl rfl rfl ?_
      have H9 := HB0.warm hLk hZ X6.warmed
      have he : own_exp p1 b2 b3 b4 = some b3 := if_pos ⟨hp1, hx1⟩
      rw [he]
      exact eRetAW X6 hx hS0 (by rw [e6]; exact hk0) Bd.returns rfl rfl rfl hlk (hb hby own_d13_13) (by decide) (by decide) (by rw [e6]; exact ⟨N6, own_er, H9, .ref a3, rfl, Or.inr ⟨a3, b3, rfl, S3, rfl⟩⟩)
    · rw [if_neg hx1]
      refine eIfY X6 hx (hb hby own_d13_9) ((if0 _ _).trans (teq rfl).1) (by decide) (pc' := 14) rfl ?_
      exact J _ _ (fun q => hx1 q.2) X6 N6 e6
theorem own_d7_0 : decode prog_110_method_1_code 0 = .ok (.aload_n 0, 1) := by decide +kernel
theorem own_d7_1 : decode prog_110_method_1_code 1 = .ok (.invokespecial 1, 3) := by decide +kernel
theorem own_d7_4 : decode prog_110_method_1_code 4 = .ok (.aload_n 0, 1) := by decide +kernel
theorem own_d7_5 : decode prog_110_method_1_code 5 = .ok (.bipush 16, 2) := by decide +kernel
theorem own_d7_7 : decode prog_110_method_1_code 7 = .ok (.anewarray 7, 3) := by decide +kernel
theorem own_d7_10 : decode prog_110_method_1_code 10 = .ok (.putfield 9, 3) := by decide +kernel
theorem own_d7_13 : decode prog_110_method_1_code 13 = .ok (.aload_n 0, 1) := by decide +kernel
theorem own_d7_14 : decode prog_110_method_1_code 14 = .ok (.bipush 16, 2) := by decide +kernel
theorem own_d7_16 : decode prog_110_method_1_code 16 = .ok (.anewarray 7, 3) := by decide +kernel
theorem own_d7_19 : decode prog_110_method_1_code 19 = .ok (.putfield 15, 3) := by decide +kernel
theorem own_d7_22 : decode prog_110_method_1_code 22 = .ok (.aload_n 0, 1) := by decide +kernel
theorem own_d7_23 : decode prog_110_method_1_code 23 = .ok (.bipush 16, 2) := by decide +kernel
theorem own_d7_25 : decode prog_110_method_1_code 25 = .ok (.newarray .int, 2) := by decide +kernel
theorem own_d7_27 : decode prog_110_method_1_code 27 = .ok (.putfield 18, 3) := by decide +kernel
theorem own_d7_30 : decode prog_110_method_1_code 30 = .ok (.aload_n 0, 1) := by decide +kernel
theorem own_d7_31 : decode prog_110_method_1_code 31 = .ok (.ldc 24, 2) := by decide +kernel
theorem own_d7_33 : decode prog_110_method_1_code 33 = .ok (.ldc 26, 2) := by decide +kernel
theorem own_pd7 : parseMethodDescriptor "(Ljava/lang/String;Ljava/lang/String;)V" = some ⟨[(.object "java/lang/String"), (.object "java/lang/String")], none⟩ := by decide +kernel
theorem own_d7_35 : decode prog_110_method_1_code 35 = .ok (.invokevirtual 28, 3) := by decide +kernel
theorem own_d7_38 : decode prog_110_method_1_code 38 = .ok (.aload_n 0, 1) := by decide +kernel
theorem own_d7_39 : decode prog_110_method_1_code 39 = .ok (.ldc 32, 2) := by decide +kernel
theorem own_d7_41 : decode prog_110_method_1_code 41 = .ok (.ldc 32, 2) := by decide +kernel
theorem own_d7_43 : decode prog_110_method_1_code 43 = .ok (.invokevirtual 28, 3) := by decide +kernel
theorem own_d7_46 : decode prog_110_method_1_code 46 = .ok (.return_, 1) := by decide +kernel
def RM7 : Room := { frames := 1, cells := 11, slots := 220, locals := 14 }
theorem own_ef7 (m : MethodId) (a1 : Addr) : entryFrame m #[(.ref a1)] 1 = mkF m 0 #[.val (.ref a1)] [] := by first | (simp [entryFrame, mkF, argsToLocals, Value.category]; done) | rfl
set_option maxRecDepth 65536 in
set_option maxHeartbeats 40000000 in
theorem rm7 (l : Launch) (Z : State) (a0 : Array Value) (hw : ∀ d ∈ tables_1, d.before a0 Z = true) (ws : List Jvm.Cond) (a1 : Addr) (h0 : Heap) (n0 : Nat) (Z0 : n0 ≤ h0.size) (En : Exa Z h0 a1 "com/example/shapelint/shapelint/reader/Namespaces") (Fp : Fld Z h0 a1 "com/example/shapelint/shapelint/reader/Namespaces" "prefixes" "[Ljava/lang/String;" .null) (Fu : Fld Z h0 a1 "com/example/shapelint/shapelint/reader/Namespaces" "uris" "[Ljava/lang/String;" .null) (Fs : Fld Z h0 a1 "com/example/shapelint/shapelint/reader/Namespaces" "starts" "[I" .null) (Fc : Fld Z h0 a1 "com/example/shapelint/shapelint/reader/Namespaces" "count" "I" (.int 0)) (Fd : Fld Z h0 a1 "com/example/shapelint/shapelint/reader/Namespaces" "depth" "I" (.int 0)) (g1 : n0 ≤ a1) : MetW l Z own_cs (⟨"com/example/shapelint/shapelint/reader/Namespaces", "<init>", "()V"⟩ : MethodName) (Jvm.Cond.code (⟨"com/example/shapelint/shapelint/reader/Namespaces", "<init>", "()V"⟩ : MethodName) prog_110_method_1_code 1 none :: ws) RM7 #[(.ref a1)] h0 (fun v h vm L => Fr n0 L ∧ Keep h0 h [a1] ∧ HB Z own_cs vm h ∧ v = none ∧ ∃ (pa ua sa : Addr) (ps us : List Value) (ss : List Int32), n0 ≤ pa ∧ n0 ≤ ua ∧ n0 ≤ sa ∧ ps.length = 16 ∧ us.length = 16 ∧ ss.length = 16 ∧ Nsp Z h a1 pa ua sa ps us ss 2 0 ∧ Tab Z h ps us [(bXml, bUri), ([], [])]) := by
  refine MetFree.of_bodySF (plainFor_of_name own_pn3) hisR ?_
  intro p e s m args below meth c s₁ Bd hml0 hP hK
  obtain ⟨rfl, hZ, hh, HB0⟩ := hP
  have hx := Bd.exec
  have hby := Bd.bytes
  have hml : c.maxLocals = 1 := hml0
  have hown : s.vm.findClass "com/example/shapelint/shapelint/reader/Namespaces" = some m.cls := findClass_of_methodNamed Bd.named
  have hnm := (name_of_methodNamed Bd.named Bd.method).1
  have hlk : meth.locks = false := BodyLoose.notSynchronized Bd
  have X0 : Stand p l e RM7 (s.setVm s.vm) m #[(.ref a1)] below meth c s₁ [] 0 0 := Stand.of_body Bd
  have e0 : s₁.heap = h0 := by rw [← hh, Bd.state]; rfl
  have N0 := Fr.nil n0
  have hLk := own_lnk hw
  have hSA := own_sa hw
  have hS0 : s.Since s.vm h0.size := (State.WarmedH.refl s).since _
  have hk0 : h0.size ≤ h0.size := Nat.le_refl _
  suffices kk : Ends p e below (PostW s 11 220 (fun v h vm L => Fr n0 L ∧ Keep h0 h [a1] ∧ HB Z own_cs vm h ∧ v = none ∧ ∃ (pa ua sa : Addr) (ps us : List Value) (ss : List Int32), n0 ≤ pa ∧ n0 ≤ ua ∧ n0 ≤ sa ∧ ps.length = 16 ∧ us.length = 16 ∧ ss.length = 16 ∧ Nsp Z h a1 pa ua sa ps us ss 2 0 ∧ Tab Z h ps us [(bXml, bUri), ([], [])])) s₁ m 0 #[.val (.ref a1)] [] by
    obtain ⟨t, o, k1, k2, k3, k4⟩ := kk
    exact ⟨t, o, castTop (own_ef7 m a1) k1, k2, k3, k4⟩
  have O0 : Oth Z h0 [a1] := fun w q => by cases List.mem_singleton.mp q; exact ⟨_, En, by decide, by decide⟩
  have K0 := Keep.refl h0 [a1]
  refine eALoadN X0 hx (hb hby own_d7_0) rfl rfl rfl ?_
  refine eInitO X0 hx hZ hown (hw _ (List.mem_of_getElem? (i := 39) rfl)) (hw _ (List.mem_of_getElem? (i := 29) rfl)) (hw _ (List.mem_of_getElem? (i := 30) rfl)) e0 (by rw [hml]; rfl) (hb hby own_d7_1) (by decide) 0 (by exact Nat.le_refl _) (by decide) rfl (fun T1 X1 e1 => ?_)
  refine eALoadN X1 hx (hb hby own_d7_4) rfl rfl rfl ?_
  refine eBipush X1 hx (16 : Int32) (hb hby own_d7_5) rfl rfl ?_
  refine eANewA X1 hx hZ hown (hw _ (List.mem_of_getElem? (i := 40) rfl)) (hw _ (List.mem_of_getElem? (i := 41) rfl)) e1 (hb hby own_d7_7) (by decide) (cap := 16) (by decide) (by decide) (by decide) (by decide) rfl (fun T2 h2 pa gq2 X2 e2 E2 RP Ep => ?_)
  have kpa : h0.size ≤ pa := Nat.le_trans K0.1 (Nat.le_of_eq gq2.symm)
  have gpa : n0 ≤ pa := Nat.le_trans Z0 kpa
  have Z2 := Nat.le_trans Z0 E2.1
  have En := En.ext E2
  have Fp := Fp.ext E2
  have Fu := Fu.ext E2
  have Fs := Fs.ext E2
  have Fc := Fc.ext E2
  have Fd := Fd.ext E2
  have K2 : Keep h0 h2 [a1] := K0.ext E2
  refine ePutF X2 hx hZ hown (hw _ (List.mem_of_getElem? (i := 42) rfl)) Via.refl e2 Fp En (Or.inl (hw _ (List.mem_of_getElem? (i := 43) rfl))) (hw _ (List.mem_of_getElem? (i := 34) rfl)) (ty := (.array (.object "java/lang/String"))) (by decide) rfl rfl (hb hby own_d7_10) rfl (fun T3 h3 X3 e3 W3 => ?_)
  have N3 := Fr.snoc X3 N0 g1
  have Z3 := Nat.le_trans Z2 (Keep.of_wr W3).1
  have En := En.wr W3
  have Fp := Fp.same W3
  have Fu := Fu.other W3 (Or.inr (slot_ne (Or.inl (hw _ (List.mem_of_getElem? (i := 45) rfl))) (Or.inl (hw _ (List.mem_of_getElem? (i := 43) rfl))) (by decide) (t := (.array (.object "java/lang/String"))) (t' := (.array (.object "java/lang/String"))) (by decide) (by decide)))
  have Fs := Fs.other W3 (Or.inr (slot_ne (Or.inl (hw _ (List.mem_of_getElem? (i := 48) rfl))) (Or.inl (hw _ (List.mem_of_getElem? (i := 43) rfl))) (by decide) (t := (.array .int)) (t' := (.array (.object "java/lang/String"))) (by decide) (by decide)))
  have Fc := Fc.other W3 (Or.inr (slot_ne (Or.inl (hw _ (List.mem_of_getElem? (i := 57) rfl))) (Or.inl (hw _ (List.mem_of_getElem? (i := 43) rfl))) (by decide) (t := .int) (t' := (.array (.object "java/lang/String"))) (by decide) (by decide)))
  have Fd := Fd.other W3 (Or.inr (slot_ne (Or.inl (hw _ (List.mem_of_getElem? (i := 65) rfl))) (Or.inl (hw _ (List.mem_of_getElem? (i := 43) rfl))) (by decide) (t := .int) (t' := (.array (.object "java/lang/String"))) (by decide) (by decide)))
  have Ep := Ep.wr W3
  have RP := RP.other W3 (Ne.symm (Exa.ne En Ep (by decide)))
  have K3 : Keep h0 h3 [a1] := K2.wr W3 (Or.inl (List.mem_of_getElem? (i := 0) rfl))
  refine eALoadN X3 hx (hb hby own_d7_13) rfl rfl rfl ?_
  refine eBipush X3 hx (16 : Int32) (hb hby own_d7_14) rfl rfl ?_
  refine eANewA X3 hx hZ hown (hw _ (List.mem_of_getElem? (i := 40) rfl)) (hw _ (List.mem_of_getElem? (i := 41) rfl)) e3 (hb hby own_d7_16) (by decide) (cap := 16) (by decide) (by decide) (by decide) (by decide) rfl (fun T4 h4 ua gq4 X4 e4 E4 RU Eu => ?_)
  have kua : h0.size ≤ ua := Nat.le_trans K3.1 (Nat.le_of_eq gq4.symm)
  have gua : n0 ≤ ua := Nat.le_trans Z0 kua
  have Z4 := Nat.le_trans Z3 E4.1
  have npu : pa ≠ ua := Nat.ne_of_lt (Nat.lt_of_lt_of_le RP.lt (Nat.le_of_eq gq4.symm))
  have En := En.ext E4
  have Fp := Fp.ext E4
  have Fu := Fu.ext E4
  have Fs := Fs.ext E4
  have Fc := Fc.ext E4
  have Fd := Fd.ext E4
  have RP := RP.ext E4
  have Ep := Ep.ext E4
  have K4 : Keep h0 h4 [a1] := K3.ext E4
  refine ePutF X4 hx hZ hown (hw _ (List.mem_of_getElem? (i := 44) rfl)) Via.refl e4 Fu En (Or.inl (hw _ (List.mem_of_getElem? (i := 45) rfl))) (hw _ (List.mem_of_getElem? (i := 34) rfl)) (ty := (.array (.object "java/lang/String"))) (by decide) rfl rfl (hb hby own_d7_19) rfl (fun T5 h5 X5 e5 W5 => ?_)
  have N5 := Fr.snoc X5 N3 g1
  have Z5 := Nat.le_trans Z4 (Keep.of_wr W5).1
  have En := En.wr W5
  have Fp := Fp.other W5 (Or.inr (slot_ne (Or.inl (hw _ (List.mem_of_getElem? (i := 43) rfl))) (Or.inl (hw _ (List.mem_of_getElem? (i := 45) rfl))) (by decide) (t := (.array (.object "java/lang/String"))) (t' := (.array (.object "java/lang/String"))) (by decide) (by decide)))
  have Fu := Fu.same W5
  have Fs := Fs.other W5 (Or.inr (slot_ne (Or.inl (hw _ (List.mem_of_getElem? (i := 48) rfl))) (Or.inl (hw _ (List.mem_of_getElem? (i := 45) rfl))) (by decide) (t := (.array .int)) (t' := (.array (.object "java/lang/String"))) (by decide) (by decide)))
  have Fc := Fc.other W5 (Or.inr (slot_ne (Or.inl (hw _ (List.mem_of_getElem? (i := 57) rfl))) (Or.inl (hw _ (List.mem_of_getElem? (i := 45) rfl))) (by decide) (t := .int) (t' := (.array (.object "java/lang/String"))) (by decide) (by decide)))
  have Fd := Fd.other W5 (Or.inr (slot_ne (Or.inl (hw _ (List.mem_of_getElem? (i := 65) rfl))) (Or.inl (hw _ (List.mem_of_getElem? (i := 45) rfl))) (by decide) (t := .int) (t' := (.array (.object "java/lang/String"))) (by decide) (by decide)))
  have Ep := Ep.wr W5
  have Eu := Eu.wr W5
  have RP := RP.other W5 (Ne.symm (Exa.ne En Ep (by decide)))
  have RU := RU.other W5 (Ne.symm (Exa.ne En Eu (by decide)))
  have K5 : Keep h0 h5 [a1] := K4.wr W5 (Or.inl (List.mem_of_getElem? (i := 0) rfl))
  refine eALoadN X5 hx (hb hby own_d7_22) rfl rfl rfl ?_
  refine eBipush X5 hx (16 : Int32) (hb hby own_d7_23) rfl rfl ?_
  refine eNewE X5 hx hZ rfl rfl (hw _ (List.mem_of_getElem? (i := 46) rfl)) e5 (hb hby own_d7_25) (by decide) (cap := 16) (by decide) (by decide) (by decide) (by decide) "[I" (by decide) rfl (fun T6 h6 sa gq6 X6 e6 E6 AS Es => ?_)
  have ksa : h0.size ≤ sa := Nat.le_trans K5.1 (Nat.le_of_eq gq6.symm)
  have gsa : n0 ≤ sa := Nat.le_trans Z0 ksa
  have Z6 := Nat.le_trans Z5 E6.1
  have En := En.ext E6
  have Fp := Fp.ext E6
  have Fu := Fu.ext E6
  have Fs := Fs.ext E6
  have Fc := Fc.ext E6
  have Fd := Fd.ext E6
  have RP := RP.ext E6
  have Ep := Ep.ext E6
  have RU := RU.ext E6
  have Eu := Eu.ext E6
  have K6 : Keep h0 h6 [a1] := K5.ext E6
  refine ePutF X6 hx hZ hown (hw _ (List.mem_of_getElem? (i := 47) rfl)) Via.refl e6 Fs En (Or.inl (hw _ (List.mem_of_getElem? (i := 48) rfl))) (hw _ (List.mem_of_getElem? (i := 34) rfl)) (ty := (.array .int)) (by decide) rfl rfl (hb hby own_d7_27) rfl (fun T7 h7 X7 e7 W7 => ?_)
  have N7 := Fr.snoc X7 N5 g1
  have Z7 := Nat.le_trans Z6 (Keep.of_wr W7).1
  have En := En.wr W7
  have Fp := Fp.other W7 (Or.inr (slot_ne (Or.inl (hw _ (List.mem_of_getElem? (i := 43) rfl))) (Or.inl (hw _ (List.mem_of_getElem? (i := 48) rfl))) (by decide) (t := (.array (.object "java/lang/String"))) (t' := (.array .int)) (by decide) (by decide)))
  have Fu := Fu.other W7 (Or.inr (slot_ne (Or.inl (hw _ (List.mem_of_getElem? (i := 45) rfl))) (Or.inl (hw _ (List.mem_of_getElem? (i := 48) rfl))) (by decide) (t := (.array (.object "java/lang/String"))) (t' := (.array .int)) (by decide) (by decide)))
  have Fs := Fs.same W7
  have Fc := Fc.other W7 (Or.inr (slot_ne (Or.inl (hw _ (List.mem_of_getElem? (i := 57) rfl))) (Or.inl (hw _ (List.mem_of_getElem? (i := 48) rfl))) (by decide) (t := .int) (t' := (.array .int)) (by decide) (by decide)))
  have Fd := Fd.other W7 (Or.inr (slot_ne (Or.inl (hw _ (List.mem_of_getElem? (i := 65) rfl))) (Or.inl (hw _ (List.mem_of_getElem? (i := 48) rfl))) (by decide) (t := .int) (t' := (.array .int)) (by decide) (by decide)))
  have Ep := Ep.wr W7
  have Eu := Eu.wr W7
  have Es := Es.wr W7
  have RP := RP.other W7 (Ne.symm (Exa.ne En Ep (by decide)))
  have RU := RU.other W7 (Ne.symm (Exa.ne En Eu (by decide)))
  have AS := AS.other W7 (Ne.symm (Exa.ne En Es (by decide)))
  have K7 : Keep h0 h7 [a1] := K6.wr W7 (Or.inl (List.mem_of_getElem? (i := 0) rfl))
  have Hn : Nsp Z h7 a1 pa ua sa (List.replicate 16 .null) (List.replicate 16 .null) (List.replicate 16 0) 0 0 := ⟨En, Fp, Fu, Fs, Fc, Fd, RP, RU, AS, Ep, Eu, Es, npu⟩
  have H1 : HB Z own_cs s.vm h7 := HB0.keep hLk hZ K7 O0
  have T0 : Tab Z h7 (List.replicate 16 .null) (List.replicate 16 .null) [] := fun i hi => absurd hi (Nat.not_lt_zero _)
  refine eALoadN X7 hx (hb hby own_d7_30) rfl rfl rfl ?_
  refine eLdc X7 hx hZ hown hLk hSA (own := "com/example/shapelint/shapelint/reader/Namespaces") (index := 24) (text := "xml") (List.mem_of_getElem? (i := 3) rfl) e7 hS0 K7.1 H1 (bs := bXml) own_tx_3 (hb hby own_d7_31) 12 (by decide) (by decide) (by decide) (by decide) rfl (fun a8 T8 (X8 : Stand _ _ _ _ _ _ _ _ _ _ T8 _ 5 64) S8 V8 O8 E8 H8 Q8 => ?_)
  have Z8 := Nat.le_trans Z7 E8.1
  have Hn := Hn.ext E8
  have T0 := T0.keep (Keep.of_ext E8) Oth.nil
  have K8 : Keep h0 T8.heap [a1] := K7.ext E8
  refine eLdc X8 hx V8 O8 hLk hSA (own := "com/example/shapelint/shapelint/reader/Namespaces") (index := 26) (text := "http://www.w3.org/XML/1998/namespace") (List.mem_of_getElem? (i := 4) rfl) (rfl : T8.heap = T8.heap) S8 (Nat.le_refl _) H8 (bs := bUri) own_tx_36 (hb hby own_d7_33) 144 (by decide) (by decide) (by decide) (by decide) rfl (fun a9 T9 (X9 : Stand _ _ _ _ _ _ _ _ _ _ T9 _ 7 212) S9 V9 O9 E9 H9 Q9 => ?_)
  have Z9 := Nat.le_trans Z8 E9.1
  have Hn := Hn.ext E9
  have T0 := T0.keep (Keep.of_ext E9) Oth.nil
  have Q8 := Q8.ext E9
  have K9 : Keep h0 T9.heap [a1] := K8.ext E9
  refine eCallV X9 hx V9 (y := (⟨"com/example/shapelint/shapelint/reader/Namespaces", "bind", "(Ljava/lang/String;Ljava/lang/String;)V"⟩ : MethodName)) O9 (hw _ (List.mem_of_getElem? (i := 51) rfl)) (hw _ (List.mem_of_getElem? (i := 52) rfl)) (hw _ (List.mem_of_getElem? (i := 54) rfl)) (hw _ (List.mem_of_getElem? (i := 53) rfl)) (hw _ (List.mem_of_getElem? (i := 35) rfl)) (hw _ (List.mem_of_getElem? (i := 55) rfl)) (by decide) (rfl : T9.heap = T9.heap) Hn.1 (rm8 l Z a0 hw [] a1 a8 a9 pa ua sa _ _ _ 0 0 T9.heap n0 Z9 Hn Q8.1 Q9.1 (by decide) (by decide) (by simp) (by simp) g1 gpa gua gsa) (argsL := [(.ref a8), (.ref a9)]) (rest := []) (lenOf own_pd7 rfl) rfl (by rw [hml]; rfl) 0 (by exact Nat.le_refl _) (by decide) (by decide) (by decide) (by decide) (hb hby own_d7_35) rfl (fun v10 T10 L10 q10 (X10 : Stand _ _ _ _ _ _ _ _ _ _ T10 _ 7 212)  => ?_)
  obtain ⟨N10', P10, rfl, Hn2⟩ := q10
  have N10 := Fr.app N7 N10'
  have Z10 := Nat.le_trans Z9 P10.1
  have T0 := ((T0.snoc (by simp) (by simp) Q8 Q9).keep P10 Hn.oth)
  have H10 := H9.keep hLk V9 P10 Hn.oth
  have K10 : Keep h0 T10.heap [a1] := K9.trans P10 (fun w q => by simp only [List.mem_cons, List.not_mem_nil, or_false] at q; rcases q with rfl | rfl | rfl | rfl <;> first | exact Or.inr (by assumption) | exact Or.inl (by simp))
  have Hn := Hn2
  show Ends p e below _ T10 m 38 #[.val (.ref a1)] []
  refine eALoadN X10 hx (hb hby own_d7_38) rfl rfl rfl ?_
  refine eLdc X10 hx V9 O9 hLk hSA (own := "com/example/shapelint/shapelint/reader/Namespaces") (index := 32) (text := "") (List.mem_of_getElem? (i := 5) rfl) (rfl : T10.heap = T10.heap) S9 (Nat.le_trans (by exact (Nat.le_refl _)) P10.1) H10 (bs := []) own_tx_0 (hb hby own_d7_39) 0 (by decide) (by decide) (by decide) (by decide) rfl (fun a11 T11 (X11 : Stand _ _ _ _ _ _ _ _ _ _ T11 _ 9 216) S11 V11 O11 E11 H11 Q11 => ?_)
  have Z11 := Nat.le_trans Z10 E11.1
  have Hn := Hn.ext E11
  have T0 := T0.keep (Keep.of_ext E11) Oth.nil
  have K11 : Keep h0 T11.heap [a1] := K10.ext E11
  refine eLdc X11 hx V11 O11 hLk hSA (own := "com/example/shapelint/shapelint/reader/Namespaces") (index := 32) (text := "") (List.mem_of_getElem? (i := 5) rfl) (rfl : T11.heap = T11.heap) S11 (Nat.le_refl _) H11 (bs := []) own_tx_0 (hb hby own_d7_41) 0 (by decide) (by decide) (by decide) (by decide) rfl (fun a12 T12 (X12 : Stand _ _ _ _ _ _ _ _ _ _ T12 _ 11 220) S12 V12 O12 E12 H12 Q12 => ?_)
  have Z12 := Nat.le_trans Z11 E12.1
  have Hn := Hn.ext E12
  have T0 := T0.keep (Keep.of_ext E12) Oth.nil
  have Q11 := Q11.ext E12
  have K12 : Keep h0 T12.heap [a1] := K11.ext E12
  refine eCallV X12 hx V12 (y := (⟨"com/example/shapelint/shapelint/reader/Namespaces", "bind", "(Ljava/lang/String;Ljava/lang/String;)V"⟩ : MethodName)) O12 (hw _ (List.mem_of_getElem? (i := 51) rfl)) (hw _ (List.mem_of_getElem? (i := 52) rfl)) (hw _ (List.mem_of_getElem? (i := 54) rfl)) (hw _ (List.mem_of_getElem? (i := 53) rfl)) (hw _ (List.mem_of_getElem? (i := 35) rfl)) (hw _ (List.mem_of_getElem? (i := 55) rfl)) (by decide) (rfl : T12.heap = T12.heap) Hn.1 (rm8 l Z a0 hw [] a1 a11 a12 pa ua sa _ _ _ (0 + 1) 0 T12.heap n0 Z12 Hn Q11.1 Q12.1 (by decide) (by decide) (by simp) (by simp) g1 gpa gua gsa) (argsL := [(.ref a11), (.ref a12)]) (rest := []) (lenOf own_pd7 rfl) rfl (by rw [hml]; rfl) 0 (by exact Nat.le_refl _) (by decide) (by decide) (by decide) (by decide) (hb hby own_d7_43) rfl (fun v13 T13 L13 q13 (X13 : Stand _ _ _ _ _ _ _ _ _ _ T13 _ 11 220)  => ?_)
  obtain ⟨N13', P13, rfl, Hn2⟩ := q13
  have N13 := Fr.app N10 N13'
  have Z13 := Nat.le_trans Z12 P13.1
  have T0 := ((T0.snoc (by simp) (by simp) Q11 Q12).keep P13 Hn.oth)
  have H13 := H12.keep hLk V12 P13 Hn.oth
  have K13 : Keep h0 T13.heap [a1] := K12.trans P13 (fun w q => by simp only [List.mem_cons, List.not_mem_nil, or_false] at q; rcases q with rfl | rfl | rfl | rfl <;> first | exact Or.inr (by assumption) | exact Or.inl (by simp))
  have Hn := Hn2
  show Ends p e below _ T13 m 46 #[.val (.ref a1)] []
  have H9 := H13.warm hLk V12 X13.warmed
  exact eRetVW X13 hx S12 (Nat.le_trans (by exact (Nat.le_refl _)) P13.1) Bd.returns hlk (hb hby own_d7_46) (by decide) (by decide) ⟨N13, K13, H9, rfl, pa, ua, sa, _, _, _, gpa, gua, gsa, by simp, by simp, by simp, Hn, T0⟩
theorem rm14 (l : Launch) (Z : State) (a0 : Array Value) (hw : ∀ d ∈ tables_1, d.before a0 Z = true) (ws : List Jvm.Cond) (x y : Value) (ox oy : Option (List Int32)) (h0 : Heap) (n0 : Nat) (Z0 : n0 ≤ h0.size) (G : Gd Z h0) (C1 : Cont Z h0 x ox) (C2 : Cont Z h0 y oy) : MetQ l Z (⟨"com/example/shapelint/shapelint/reader/NamespacesClosePinLaw", "same", "(Ljava/lang/String;Ljava/lang/String;)Z"⟩ : MethodName) (Jvm.Cond.code (⟨"com/example/shapelint/shapelint/reader/NamespacesClosePinLaw", "same", "(Ljava/lang/String;Ljava/lang/String;)Z"⟩ : MethodName) method_4_code 2 (some .boolean) :: ws) RM14 #[x, y] h0 (fun v h L => Fr n0 L ∧ h = h0 ∧ v = some (.int (if ox = oy then 1 else 0))) := by
  rcases C1 with ⟨rfl, rfl⟩ | ⟨a1, xs, rfl, S1, rfl⟩ <;> rcases C2 with ⟨rfl, rfl⟩ | ⟨a2, ys, rfl, S2, rfl⟩
  · exact rm14nn l Z a0 hw ws h0 n0 Z0
  · exact rm14nr l Z a0 hw ws a2 h0 n0 Z0
  · exact rm14rn l Z a0 hw ws a1 h0 n0 Z0
  · have q := rm14rr l Z a0 hw ws a1 a2 xs ys h0 n0 Z0 G S1 S2
    have e : (if some xs = some ys then (1 : Int32) else 0) = if xs = ys then 1 else 0 := by simp only [Option.some.injEq]
    rw [e]; exact q
theorem own_pd8 : parseMethodDescriptor "(I)Ljava/lang/String;" = some ⟨[.int], some (.object "java/lang/String")⟩ := by decide +kernel
theorem own_pd9 : parseMethodDescriptor "()V" = some ⟨[], none⟩ := by decide +kernel
theorem own_pd10 : parseMethodDescriptor "(Ljava/lang/String;)Ljava/lang/String;" = some ⟨[(.object "java/lang/String")], some (.object "java/lang/String")⟩ := by decide +kernel
theorem own_pd11 : parseMethodDescriptor "(ZLjava/lang/String;Ljava/lang/String;Ljava/lang/String;)Ljava/lang/String;" = some ⟨[.boolean, (.object "java/lang/String"), (.object "java/lang/String"), (.object "java/lang/String")], some (.object "java/lang/String")⟩ := by decide +kernel
theorem own_pd12 : parseMethodDescriptor "(Ljava/lang/String;Ljava/lang/String;)Z" = some ⟨[(.object "java/lang/String"), (.object "java/lang/String")], some .boolean⟩ := by decide +kernel
theorem own_ef0 (m : MethodId) (p1 : Int32) (p2 : Int32) (p3 : Int32) (p4 : Int32) (p5 : Int32) (p6 : Int32) : entryFrame m #[(.int p1), (.int p2), (.int p3), (.int p4), (.int p5), (.int p6)] maxLocals = mkF m 0 #[.val (.int p1), .val (.int p2), .val (.int p3), .val (.int p4), .val (.int p5), .val (.int p6), .unset, .unset, .unset, .unset, .unset, .unset, .unset, .unset, .unset, .unset, .unset, .unset, .unset] [] := by first | (simp [entryFrame, mkF, argsToLocals, Value.category, maxLocals]; done) | rfl
set_option maxRecDepth 65536 in
set_option maxHeartbeats 40000000 in
theorem rm0 (l : Launch) (Z : State) (a0 : Array Value) (hw : ∀ d ∈ tables_1, d.before a0 Z = true) (ws : List Jvm.Cond) (p1 p2 p3 p4 p5 p6 : Int32) (h0 : Heap) (n0 : Nat) (Z0 : n0 ≤ h0.size) (G : Gd Z h0) : MetFree l x (head1 (Jvm.Cond.code x code maxLocals ret :: ws) room_1) (fun a U => a = #[(.int p1), (.int p2), (.int p3), (.int p4), (.int p5), (.int p6)] ∧ Z.Warmed39 U.vm ∧ U.heap = h0 ∧ HB Z own_cs U.vm h0) (fun _ _ _ _ _ => True) (fun _ U o U' => PostW U 56 6400 (fun v h vm L => v = some (.int 1) ∧ Fr n0 L) U' o) := by
  refine MetFree.of_bodySF (plainFor_of_name own_pn2) hisR ?_
  intro p e s m args below meth c s₁ Bd hml0 hP hK
  obtain ⟨rfl, hZ, hh, HB0⟩ := hP
  have hx := Bd.exec
  have hby := Bd.bytes
  have hml : c.maxLocals = 19 := hml0
  have hown : s.vm.findClass "com/example/shapelint/shapelint/reader/NamespacesClosePinLaw" = some m.cls := findClass_of_methodNamed Bd.named
  have hnm := (name_of_methodNamed Bd.named Bd.method).1
  have hlk : meth.locks = false := BodyLoose.notSynchronized Bd
  have X0 : Stand p l e room_1 (s.setVm s.vm) m #[(.int p1), (.int p2), (.int p3), (.int p4), (.int p5), (.int p6)] below meth c s₁ [] 0 0 := Stand.of_body Bd
  have e0 : s₁.heap = h0 := by rw [← hh, Bd.state]; rfl
  have N0 := Fr.nil n0
  have hLk := own_lnk hw
  have hSA := own_sa hw
  have hS0 : s.Since s.vm h0.size := (State.WarmedH.refl s).since _
  have hk0 : h0.size ≤ h0.size := Nat.le_refl _
  suffices kk : Ends p e below (PostW s 56 6400 (fun v h vm L => v = some (.int 1) ∧ Fr n0 L)) s₁ m 0 #[.val (.int p1), .val (.int p2), .val (.int p3), .val (.int p4), .val (.int p5), .val (.int p6), .unset, .unset, .unset, .unset, .unset, .unset, .unset, .unset, .unset, .unset, .unset, .unset, .unset] [] by
    obtain ⟨t, o, k1, k2, k3, k4⟩ := kk
    exact ⟨t, o, castTop (own_ef0 m p1 p2 p3 p4 p5 p6) k1, k2, k3, k4⟩
  refine eILoadN X0 hx (hb hby at_0) rfl rfl ?_
  refine eCallSW X0 hx hZ (y := (⟨"com/example/shapelint/shapelint/reader/NamespacesClosePinLaw", "prefix", "(I)Ljava/lang/String;"⟩ : MethodName)) hown (hw _ (List.mem_of_getElem? (i := 0) rfl)) (hw _ (List.mem_of_getElem? (i := 1) rfl)) (hw _ (List.mem_of_getElem? (i := 2) rfl)) (hw _ (List.mem_of_getElem? (i := 3) rfl)) (by decide) hLk e0 hS0 hk0 HB0 (rm1 l Z a0 hw [] _ h0 n0 Z0 G) (argsL := [(.int p1)]) (rest := []) (lenOf own_pd8 rfl) rfl (by rw [hml]; rfl) 0 (by exact Nat.le_refl _) (by decide) (by decide) (by decide) (by decide) (hb hby at_1) rfl (fun v1 T1 L1 q1 (X1 : Stand _ _ _ _ _ _ _ _ _ _ T1 _ 2 16) S1 V1 O1 => ?_)
  obtain ⟨N1', E1, H1, a_6, b_6, rfl, Q1⟩ := q1
  have N1 := Fr.app N0 N1'
  have Z1 := Nat.le_trans Z0 E1.1
  have G := G.keep (Keep.of_ext E1) Oth.nil
  have Sx6 := Q1
  show Ends p e below _ T1 m 4 #[.val (.int p1), .val (.int p2), .val (.int p3), .val (.int p4), .val (.int p5), .val (.int p6), .unset, .unset, .unset, .unset, .unset, .unset, .unset, .unset, .unset, .unset, .unset, .unset, .unset] [(.ref a_6)]
  refine eAStore X1 hx (hb hby at_4) rfl (L' := #[.val (.int p1), .val (.int p2), .val (.int p3), .val (.int p4), .val (.int p5), .val (.int p6), .val (.ref a_6), .unset, .unset, .unset, .unset, .unset, .unset, .unset, .unset, .unset, .unset, .unset, .unset]) rfl rfl ?_
  refine eILoadN X1 hx (hb hby at_6) rfl rfl ?_
  refine eSipush X1 hx (255 : Int32) (hb hby at_7) rfl rfl ?_
  refine eIAnd X1 hx (hb hby at_10) rfl ?_
  refine eI2C X1 hx (hb hby at_11) rfl ?_
  refine eCallS X1 hx V1 (y := (⟨"java/lang/String", "valueOf", "(C)Ljava/lang/String;"⟩ : MethodName)) O1 (hw _ (List.mem_of_getElem? (i := 12) rfl)) (hw _ (List.mem_of_getElem? (i := 13) rfl)) (hw _ (List.mem_of_getElem? (i := 5) rfl)) (hw _ (List.mem_of_getElem? (i := 14) rfl)) (by decide) (rfl : T1.heap = T1.heap) (rm2 l Z a0 hw [] _ T1.heap n0 Z1 G (own_ch _)) (argsL := [(.int ((p2 &&& (255 : Int32)).toUInt32.toUInt16.toUInt32.toInt32))]) (rest := []) (lenOf own_pd5 rfl) rfl (by rw [hml]; rfl) 0 (by exact Nat.le_refl _) (by decide) (by decide) (by decide) (by decide) (hb hby at_12) rfl (fun v2 T2 L2 q2 (X2 : Stand _ _ _ _ _ _ _ _ _ _ T2 _ 4 21)  => ?_)
  obtain ⟨N2', E2, a_7, b_7, rfl, Q2⟩ := q2
  have N2 := Fr.app N1 N2'
  have Z2 := Nat.le_trans Z1 E2.1
  have Sx6 := Sx6.ext E2
  have G := G.keep (Keep.of_ext E2) Oth.nil
  have H2 := H1.keep hLk V1 (Keep.of_ext E2) Oth.nil
  have k2 : _ ≤ T2.heap.size := Nat.le_trans (Nat.le_refl _) E2.1
  have Sx7 := Q2
  show Ends p e below _ T2 m 15 #[.val (.int p1), .val (.int p2), .val (.int p3), .val (.int p4), .val (.int p5), .val (.int p6), .val (.ref a_6), .unset, .unset, .unset, .unset, .unset, .unset, .unset, .unset, .unset, .unset, .unset, .unset] [(.ref a_7)]
  refine eAStore X2 hx (hb hby at_15) rfl (L' := #[.val (.int p1), .val (.int p2), .val (.int p3), .val (.int p4), .val (.int p5), .val (.int p6), .val (.ref a_6), .val (.ref a_7), .unset, .unset, .unset, .unset, .unset, .unset, .unset, .unset, .unset, .unset, .unset]) rfl rfl ?_
  refine eILoadN X2 hx (hb hby at_17) rfl rfl ?_
  refine eCallSW X2 hx V1 (y := (⟨"com/example/shapelint/shapelint/reader/NamespacesClosePinLaw", "prefix", "(I)Ljava/lang/String;"⟩ : MethodName)) O1 (hw _ (List.mem_of_getElem? (i := 0) rfl)) (hw _ (List.mem_of_getElem? (i := 1) rfl)) (hw _ (List.mem_of_getElem? (i := 2) rfl)) (hw _ (List.mem_of_getElem? (i := 3) rfl)) (by decide) hLk (rfl : T2.heap = T2.heap) S1 k2 H2 (rm1 l Z a0 hw [] _ T2.heap n0 Z2 G) (argsL := [(.int p3)]) (rest := []) (lenOf own_pd8 rfl) rfl (by rw [hml]; rfl) 0 (by exact Nat.le_refl _) (by decide) (by decide) (by decide) (by decide) (hb hby at_18) rfl (fun v3 T3 L3 q3 (X3 : Stand _ _ _ _ _ _ _ _ _ _ T3 _ 6 37) S3 V3 O3 => ?_)
  obtain ⟨N3', E3, H3, a_8, b_8, rfl, Q3⟩ := q3
  have N3 := Fr.app N2 N3'
  have Z3 := Nat.le_trans Z2 E3.1
  have Sx6 := Sx6.ext E3
  have Sx7 := Sx7.ext E3
  have G := G.keep (Keep.of_ext E3) Oth.nil
  have Sx8 := Q3
  show Ends p e below _ T3 m 21 #[.val (.int p1), .val (.int p2), .val (.int p3), .val (.int p4), .val (.int p5), .val (.int p6), .val (.ref a_6), .val (.ref a_7), .unset, .unset, .unset, .unset, .unset, .unset, .unset, .unset, .unset, .unset, .unset] [(.ref a_8)]
  refine eAStore X3 hx (hb hby at_21) rfl (L' := #[.val (.int p1), .val (.int p2), .val (.int p3), .val (.int p4), .val (.int p5), .val (.int p6), .val (.ref a_6), .val (.ref a_7), .val (.ref a_8), .unset, .unset, .unset, .unset, .unset, .unset, .unset, .unset, .unset, .unset]) rfl rfl ?_
  refine eILoadN X3 hx (hb hby at_23) rfl rfl ?_
  refine eSipush X3 hx (255 : Int32) (hb hby at_24) rfl rfl ?_
  refine eIAnd X3 hx (hb hby at_27) rfl ?_
  refine eI2C X3 hx (hb hby at_28) rfl ?_
  refine eCallS X3 hx V3 (y := (⟨"java/lang/String", "valueOf", "(C)Ljava/lang/String;"⟩ : MethodName)) O3 (hw _ (List.mem_of_getElem? (i := 12) rfl)) (hw _ (List.mem_of_getElem? (i := 13) rfl)) (hw _ (List.mem_of_getElem? (i := 5) rfl)) (hw _ (List.mem_of_getElem? (i := 14) rfl)) (by decide) (rfl : T3.heap = T3.heap) (rm2 l Z a0 hw [] _ T3.heap n0 Z3 G (own_ch _)) (argsL := [(.int ((p4 &&& (255 : Int32)).toUInt32.toUInt16.toUInt32.toInt32))]) (rest := []) (lenOf own_pd5 rfl) rfl (by rw [hml]; rfl) 0 (by exact Nat.le_refl _) (by decide) (by decide) (by decide) (by decide) (hb hby at_29) rfl (fun v4 T4 L4 q4 (X4 : Stand _ _ _ _ _ _ _ _ _ _ T4 _ 8 42)  => ?_)
  obtain ⟨N4', E4, a_9, b_9, rfl, Q4⟩ := q4
  have N4 := Fr.app N3 N4'
  have Z4 := Nat.le_trans Z3 E4.1
  have Sx6 := Sx6.ext E4
  have Sx7 := Sx7.ext E4
  have Sx8 := Sx8.ext E4
  have G := G.keep (Keep.of_ext E4) Oth.nil
  have H4 := H3.keep hLk V3 (Keep.of_ext E4) Oth.nil
  have k4 : _ ≤ T4.heap.size := Nat.le_trans (Nat.le_refl _) E4.1
  have Sx9 := Q4
  show Ends p e below _ T4 m 32 #[.val (.int p1), .val (.int p2), .val (.int p3), .val (.int p4), .val (.int p5), .val (.int p6), .val (.ref a_6), .val (.ref a_7), .val (.ref a_8), .unset, .unset, .unset, .unset, .unset, .unset, .unset, .unset, .unset, .unset] [(.ref a_9)]
  refine eAStore X4 hx (hb hby at_32) rfl (L' := #[.val (.int p1), .val (.int p2), .val (.int p3), .val (.int p4), .val (.int p5), .val (.int p6), .val (.ref a_6), .val (.ref a_7), .val (.ref a_8), .val (.ref a_9), .unset, .unset, .unset, .unset, .unset, .unset, .unset, .unset, .unset]) rfl rfl ?_
  refine eILoad X4 hx (hb hby at_34) rfl rfl ?_
  refine eCallSW X4 hx V3 (y := (⟨"com/example/shapelint/shapelint/reader/NamespacesClosePinLaw", "prefix", "(I)Ljava/lang/String;"⟩ : MethodName)) O3 (hw _ (List.mem_of_getElem? (i := 0) rfl)) (hw _ (List.mem_of_getElem? (i := 1) rfl)) (hw _ (List.mem_of_getElem? (i := 2) rfl)) (hw _ (List.mem_of_getElem? (i := 3) rfl)) (by decide) hLk (rfl : T4.heap = T4.heap) S3 k4 H4 (rm1 l Z a0 hw [] _ T4.heap n0 Z4 G) (argsL := [(.int p5)]) (rest := []) (lenOf own_pd8 rfl) rfl (by rw [hml]; rfl) 0 (by exact Nat.le_refl _) (by decide) (by decide) (by decide) (by decide) (hb hby at_36) rfl (fun v5 T5 L5 q5 (X5 : Stand _ _ _ _ _ _ _ _ _ _ T5 _ 10 58) S5 V5 O5 => ?_)
  obtain ⟨N5', E5, H5, a_10, b_10, rfl, Q5⟩ := q5
  have N5 := Fr.app N4 N5'
  have Z5 := Nat.le_trans Z4 E5.1
  have Sx6 := Sx6.ext E5
  have Sx7 := Sx7.ext E5
  have Sx8 := Sx8.ext E5
  have Sx9 := Sx9.ext E5
  have G := G.keep (Keep.of_ext E5) Oth.nil
  have Sx10 := Q5
  show Ends p e below _ T5 m 39 #[.val (.int p1), .val (.int p2), .val (.int p3), .val (.int p4), .val (.int p5), .val (.int p6), .val (.ref a_6), .val (.ref a_7), .val (.ref a_8), .val (.ref a_9), .unset, .unset, .unset, .unset, .unset, .unset, .unset, .unset, .unset] [(.ref a_10)]
  refine eAStore X5 hx (hb hby at_39) rfl (L' := #[.val (.int p1), .val (.int p2), .val (.int p3), .val (.int p4), .val (.int p5), .val (.int p6), .val (.ref a_6), .val (.ref a_7), .val (.ref a_8), .val (.ref a_9), .val (.ref a_10), .unset, .unset, .unset, .unset, .unset, .unset, .unset, .unset]) rfl rfl ?_
  refine eILoad X5 hx (hb hby at_41) rfl rfl ?_
  refine eBipush X5 hx (8 : Int32) (hb hby at_43) rfl rfl ?_
  refine eIUshr X5 hx (hb hby at_45) rfl ?_
  refine eSipush X5 hx (255 : Int32) (hb hby at_46) rfl rfl ?_
  refine eIAnd X5 hx (hb hby at_49) rfl ?_
  refine eI2C X5 hx (hb hby at_50) rfl ?_
  refine eCallS X5 hx V5 (y := (⟨"java/lang/String", "valueOf", "(C)Ljava/lang/String;"⟩ : MethodName)) O5 (hw _ (List.mem_of_getElem? (i := 12) rfl)) (hw _ (List.mem_of_getElem? (i := 13) rfl)) (hw _ (List.mem_of_getElem? (i := 5) rfl)) (hw _ (List.mem_of_getElem? (i := 14) rfl)) (by decide) (rfl : T5.heap = T5.heap) (rm2 l Z a0 hw [] _ T5.heap n0 Z5 G (own_ch _)) (argsL := [(.int ((((p6.toUInt32 >>> ((8 : Int32) &&& 31).toUInt32).toInt32) &&& (255 : Int32)).toUInt32.toUInt16.toUInt32.toInt32))]) (rest := []) (lenOf own_pd5 rfl) rfl (by rw [hml]; rfl) 0 (by exact Nat.le_refl _) (by decide) (by decide) (by decide) (by decide) (hb hby at_51) rfl (fun v6 T6 L6 q6 (X6 : Stand _ _ _ _ _ _ _ _ _ _ T6 _ 12 63)  => ?_)
  obtain ⟨N6', E6, a_11, b_11, rfl, Q6⟩ := q6
  have N6 := Fr.app N5 N6'
  have Z6 := Nat.le_trans Z5 E6.1
  have Sx6 := Sx6.ext E6
  have Sx7 := Sx7.ext E6
  have Sx8 := Sx8.ext E6
  have Sx9 := Sx9.ext E6
  have Sx10 := Sx10.ext E6
  have G := G.keep (Keep.of_ext E6) Oth.nil
  have H6 := H5.keep hLk V5 (Keep.of_ext E6) Oth.nil
  have k6 : _ ≤ T6.heap.size := Nat.le_trans (Nat.le_refl _) E6.1
  have Sx11 := Q6
  show Ends p e below _ T6 m 54 #[.val (.int p1), .val (.int p2), .val (.int p3), .val (.int p4), .val (.int p5), .val (.int p6), .val (.ref a_6), .val (.ref a_7), .val (.ref a_8), .val (.ref a_9), .val (.ref a_10), .unset, .unset, .unset, .unset, .unset, .unset, .unset, .unset] [(.ref a_11)]
  refine eAStore X6 hx (hb hby at_54) rfl (L' := #[.val (.int p1), .val (.int p2), .val (.int p3), .val (.int p4), .val (.int p5), .val (.int p6), .val (.ref a_6), .val (.ref a_7), .val (.ref a_8), .val (.ref a_9), .val (.ref a_10), .val (.ref a_11), .unset, .unset, .unset, .unset, .unset, .unset, .unset]) rfl rfl ?_
  refine eILoad X6 hx (hb hby at_56) rfl rfl ?_
  refine eIConst X6 hx (1 : Int32) (hb hby at_58) rfl rfl ?_
  refine eIAnd X6 hx (hb hby at_59) rfl ?_
  have Jo1 : ∀ o1 : Int32, Ends p e below (PostW s 56 6400 (fun v h vm L => v = some (.int 1) ∧ Fr n0 L)) T6 m 68 #[.val (.int p1), .val (.int p2), .val (.int p3), .val (.int p4), .val (.int p5), .val (.int p6), .val (.ref a_6), .val (.ref a_7), .val (.ref a_8), .val (.ref a_9), .val (.ref a_10), .val (.ref a_11), .unset, .unset, .unset, .unset, .unset, .unset, .unset] [(.int o1)] := by
    intro o1
    refine eIStore X6 hx (hb hby at_68) (L' := #[.val (.int p1), .val (.int p2), .val (.int p3), .val (.int p4), .val (.int p5), .val (.int p6), .val (.ref a_6), .val (.ref a_7), .val (.ref a_8), .val (.ref a_9), .val (.ref a_10), .val (.ref a_11), .val (.int o1), .unset, .unset, .unset, .unset, .unset, .unset]) rfl rfl ?_
    refine eILoad X6 hx (hb hby at_70) rfl rfl ?_
    refine eIConst X6 hx (2 : Int32) (hb hby at_72) rfl rfl ?_
    refine eIAnd X6 hx (hb hby at_73) rfl ?_
    have Jo2 : ∀ o2 : Int32, Ends p e below (PostW s 56 6400 (fun v h vm L => v = some (.int 1) ∧ Fr n0 L)) T6 m 82 #[.val (.int p1), .val (.int p2), .val (.int p3), .val (.int p4), .val (.int p5), .val (.int p6), .val (.ref a_6), .val (.ref a_7), .val (.ref a_8), .val (.ref a_9), .val (.ref a_10), .val (.ref a_11), .val (.int o1), .unset, .unset, .unset, .unset, .unset, .unset] [(.int o2)] := by
      intro o2
      refine eIStore X6 hx (hb hby at_82) (L' := #[.val (.int p1), .val (.int p2), .val (.int p3), .val (.int p4), .val (.int p5), .val (.int p6), .val (.ref a_6), .val (.ref a_7), .val (.ref a_8), .val (.ref a_9), .val (.ref a_10), .val (.ref a_11), .val (.int o1), .val (.int o2), .unset, .unset, .unset, .unset, .unset]) rfl rfl ?_
      refine eILoad X6 hx (hb hby at_84) rfl rfl ?_
      refine eIConst X6 hx (4 : Int32) (hb hby at_86) rfl rfl ?_
      refine eIAnd X6 hx (hb hby at_87) rfl ?_
      have Jo3 : ∀ o3 : Int32, Ends p e below (PostW s 56 6400 (fun v h vm L => v = some (.int 1) ∧ Fr n0 L)) T6 m 96 #[.val (.int p1), .val (.int p2), .val (.int p3), .val (.int p4), .val (.int p5), .val (.int p6), .val (.ref a_6), .val (.ref a_7), .val (.ref a_8), .val (.ref a_9), .val (.ref a_10), .val (.ref a_11), .val (.int o1), .val (.int o2), .unset, .unset, .unset, .unset, .unset] [(.int o3)] := by
        intro o3
        refine eIStore X6 hx (hb hby at_96) (L' := #[.val (.int p1), .val (.int p2), .val (.int p3), .val (.int p4), .val (.int p5), .val (.int p6), .val (.ref a_6), .val (.ref a_7), .val (.ref a_8), .val (.ref a_9), .val (.ref a_10), .val (.ref a_11), .val (.int o1), .val (.int o2), .val (.int o3), .unset, .unset, .unset, .unset]) rfl rfl ?_
        refine eNewO X6 hx V5 O5 (hw _ (List.mem_of_getElem? (i := 33) rfl)) (hw _ (List.mem_of_getElem? (i := 34) rfl)) (hw _ (List.mem_of_getElem? (i := 35) rfl)) (rfl : T6.heap = T6.heap) (hb hby at_98) (by decide) (by decide) rfl (fun T7 h7 ad7 g7 X7 e7 E7 A7 D7 => ?_)
        have ge7 : n0 ≤ ad7 := Nat.le_trans Z6 (Nat.le_of_eq g7.symm)
        have Z7 := Nat.le_trans Z6 E7.1
        have F7_prefixes : Fld Z h7 ad7 "com/example/shapelint/shapelint/reader/Namespaces" "prefixes" "[Ljava/lang/String;" .null := D7 (Or.inl (hw _ (List.mem_of_getElem? (i := 43) rfl))) (ty := (.array (.object "java/lang/String"))) (by decide)
        have F7_uris : Fld Z h7 ad7 "com/example/shapelint/shapelint/reader/Namespaces" "uris" "[Ljava/lang/String;" .null := D7 (Or.inl (hw _ (List.mem_of_getElem? (i := 45) rfl))) (ty := (.array (.object "java/lang/String"))) (by decide)
        have F7_starts : Fld Z h7 ad7 "com/example/shapelint/shapelint/reader/Namespaces" "starts" "[I" .null := D7 (Or.inl (hw _ (List.mem_of_getElem? (i := 48) rfl))) (ty := (.array .int)) (by decide)
        have F7_count : Fld Z h7 ad7 "com/example/shapelint/shapelint/reader/Namespaces" "count" "I" (.int 0) := D7 (Or.inl (hw _ (List.mem_of_getElem? (i := 57) rfl))) (ty := .int) (by decide)
        have F7_depth : Fld Z h7 ad7 "com/example/shapelint/shapelint/reader/Namespaces" "depth" "I" (.int 0) := D7 (Or.inl (hw _ (List.mem_of_getElem? (i := 65) rfl))) (ty := .int) (by decide)
        have Sx6 := Sx6.ext E7
        have Sx7 := Sx7.ext E7
        have Sx8 := Sx8.ext E7
        have Sx9 := Sx9.ext E7
        have Sx10 := Sx10.ext E7
        have Sx11 := Sx11.ext E7
        have G := G.keep (Keep.of_ext E7) Oth.nil
        have H7 := H6.keep hLk V5 (Keep.of_ext E7) Oth.nil
        have k7 : _ ≤ h7.size := Nat.le_trans k6 E7.1
        have O1 : Oth Z h7 [ad7] := fun w q => by cases List.mem_singleton.mp q; exact ⟨_, A7, by decide, by decide⟩
        refine eDup X7 hx (hb hby at_101) rfl rfl ?_
        refine eCallIW X7 hx V5 (y := (⟨"com/example/shapelint/shapelint/reader/Namespaces", "<init>", "()V"⟩ : MethodName)) (a := ad7) rfl O5 (hw _ (List.mem_of_getElem? (i := 36) rfl)) (hw _ (List.mem_of_getElem? (i := 37) rfl)) (hw _ (List.mem_of_getElem? (i := 35) rfl)) (hw _ (List.mem_of_getElem? (i := 38) rfl)) (by decide) hLk e7 S5 k7 H7 (rm7 l Z a0 hw [] ad7 h7 n0 Z7 A7 F7_prefixes F7_uris F7_starts F7_count F7_depth ge7) (argsL := []) (rest := [(.ref ad7)]) (lenOf own_pd9 rfl) rfl (by rw [hml]; rfl) 1 (by exact Nat.le_refl _) (by decide) (by decide) (by decide) (by decide) (hb hby at_102) rfl (fun v8 T8 L8 q8 (X8 : Stand _ _ _ _ _ _ _ _ _ _ T8 _ 24 288) S8 V8 O8 => ?_)
        obtain ⟨N8', K8, H8, rfl, pa, ua, sa, ps, us, ss, gpa, gua, gsa, hps, hus, hss, Hn, T0⟩ := q8
        have N8 := Fr.app N6 N8'
        have Z8 := Nat.le_trans Z7 K8.1
        have Sx6 := Sx6.keep K8 O1
        have Sx7 := Sx7.keep K8 O1
        have Sx8 := Sx8.keep K8 O1
        have Sx9 := Sx9.keep K8 O1
        have Sx10 := Sx10.keep K8 O1
        have Sx11 := Sx11.keep K8 O1
        have G := G.keep K8 O1
        show Ends p e below _ T8 m 105 #[.val (.int p1), .val (.int p2), .val (.int p3), .val (.int p4), .val (.int p5), .val (.int p6), .val (.ref a_6), .val (.ref a_7), .val (.ref a_8), .val (.ref a_9), .val (.ref a_10), .val (.ref a_11), .val (.int o1), .val (.int o2), .val (.int o3), .unset, .unset, .unset, .unset] [(.ref ad7)]
        have k00 : T8.heap.size ≤ T8.heap.size := Nat.le_refl _
        refine eAStore X8 hx (hb hby at_105) rfl (L' := #[.val (.int p1), .val (.int p2), .val (.int p3), .val (.int p4), .val (.int p5), .val (.int p6), .val (.ref a_6), .val (.ref a_7), .val (.ref a_8), .val (.ref a_9), .val (.ref a_10), .val (.ref a_11), .val (.int o1), .val (.int o2), .val (.int o3), .val (.ref ad7), .unset, .unset, .unset]) rfl rfl ?_
        refine eALoad X8 hx (hb hby at_107) rfl rfl rfl ?_
        refine eCallV X8 hx V8 (y := (⟨"com/example/shapelint/shapelint/reader/Namespaces", "open", "()V"⟩ : MethodName)) O8 (hw _ (List.mem_of_getElem? (i := 59) rfl)) (hw _ (List.mem_of_getElem? (i := 60) rfl)) (hw _ (List.mem_of_getElem? (i := 62) rfl)) (hw _ (List.mem_of_getElem? (i := 61) rfl)) (hw _ (List.mem_of_getElem? (i := 35) rfl)) (hw _ (List.mem_of_getElem? (i := 63) rfl)) (by decide) (rfl : T8.heap = T8.heap) Hn.1 (rm9 l Z a0 hw [] ad7 pa ua sa ps us ss 2 0 T8.heap n0 Z8 Hn (by decide) (by decide) hss ge7 gpa gua gsa) (argsL := []) (rest := []) (lenOf own_pd9 rfl) rfl (by rw [hml]; rfl) 0 (by exact Nat.le_refl _) (by decide) (by decide) (by decide) (by decide) (hb hby at_109) rfl (fun v9 T9 L9 q9 (X9 : Stand _ _ _ _ _ _ _ _ _ _ T9 _ 24 288)  => ?_)
        obtain ⟨N9', P9, rfl, Hn2⟩ := q9
        have N9 := Fr.app N8 N9'
        have Z9 := Nat.le_trans Z8 P9.1
        have T0 := T0.keep P9 Hn.oth
        have H9 := H8.keep hLk V8 P9 Hn.oth
        have k9 : _ ≤ T9.heap.size := Nat.le_trans k00 P9.1
        have Sx6 := Sx6.keep P9 Hn.oth
        have Sx7 := Sx7.keep P9 Hn.oth
        have Sx8 := Sx8.keep P9 Hn.oth
        have Sx9 := Sx9.keep P9 Hn.oth
        have Sx10 := Sx10.keep P9 Hn.oth
        have Sx11 := Sx11.keep P9 Hn.oth
        have G := G.keep P9 Hn.oth
        have Hn := Hn2
        show Ends p e below _ T9 m 112 #[.val (.int p1), .val (.int p2), .val (.int p3), .val (.int p4), .val (.int p5), .val (.int p6), .val (.ref a_6), .val (.ref a_7), .val (.ref a_8), .val (.ref a_9), .val (.ref a_10), .val (.ref a_11), .val (.int o1), .val (.int o2), .val (.int o3), .val (.ref ad7), .unset, .unset, .unset] []
        refine eILoad X9 hx (hb hby at_112) rfl rfl ?_
        have J4 : ∀ (ps us : List Value) (cnt : Int32) (cts : List (List Int32 × List Int32)) (hp : Heap) (Tp : State) (locsp : List Loc), (∀ q, look cts q = own_exp o1 b_6 b_7 q) → cnt.toInt = cts.length → cts.length ≤ 3 → ps.length = 16 → us.length = 16 → Stand p l e room_1 (s.setVm T8.vm) m #[(.int p1), (.int p2), (.int p3), (.int p4), (.int p5), (.int p6)] below meth c Tp locsp 24 288 → Fr n0 locsp → Tp.heap = hp → n0 ≤ hp.size → T8.heap.size ≤ hp.size → HB Z own_cs T8.vm hp → Gd Z hp → Str Z hp a_6 b_6 → Str Z hp a_7 b_7 → Str Z hp a_8 b_8 → Str Z hp a_9 b_9 → Str Z hp a_10 b_10 → Str Z hp a_11 b_11 → Nsp Z hp ad7 pa ua sa ps us (wr ss 0 2) cnt (0 + 1) → Tab Z hp ps us cts → Ends p e below (PostW s 56 6400 (fun v h vm L => v = some (.int 1) ∧ Fr n0 L)) Tp m 126 #[.val (.int p1), .val (.int p2), .val (.int p3), .val (.int p4), .val (.int p5), .val (.int p6), .val (.ref a_6), .val (.ref a_7), .val (.ref a_8), .val (.ref a_9), .val (.ref a_10), .val (.ref a_11), .val (.int o1), .val (.int o2), .val (.int o3), .val (.ref ad7), .unset, .unset, .unset] [] := by
          intro ps us cnt cts hp Tp locsp hlook hcn hle hps hus Xp Np ep Zp kp Hp G Sx6 Sx7 Sx8 Sx9 Sx10 Sx11 Hn T0
          obtain ⟨r1, r2, r3⟩ := own_ss (c2 := 2) (c4 := cnt) hss
          have hc0 : ¬ cnt < 0 := own_nn hcn
          refine eALoad Xp hx (hb hby at_126) rfl rfl rfl ?_
          refine eCallV Xp hx V8 (y := (⟨"com/example/shapelint/shapelint/reader/Namespaces", "open", "()V"⟩ : MethodName)) O8 (hw _ (List.mem_of_getElem? (i := 59) rfl)) (hw _ (List.mem_of_getElem? (i := 60) rfl)) (hw _ (List.mem_of_getElem? (i := 62) rfl)) (hw _ (List.mem_of_getElem? (i := 61) rfl)) (hw _ (List.mem_of_getElem? (i := 35) rfl)) (hw _ (List.mem_of_getElem? (i := 63) rfl)) (by decide) ep Hn.1 (rm9 l Z a0 hw [] ad7 pa ua sa ps us (wr ss 0 2) cnt (0 + 1) hp n0 Zp Hn (by decide) (by decide) r3 ge7 gpa gua gsa) (argsL := []) (rest := []) (lenOf own_pd9 rfl) rfl (by rw [hml]; rfl) 0 (by exact Nat.le_refl _) (by decide) (by decide) (by decide) (by decide) (hb hby at_128) rfl (fun v10 T10 L10 q10 (X10 : Stand _ _ _ _ _ _ _ _ _ _ T10 _ 24 288)  => ?_)
          obtain ⟨N10', P10, rfl, Hn2⟩ := q10
          have N10 := Fr.app Np N10'
          have Z10 := Nat.le_trans Zp P10.1
          have T0 := T0.keep P10 Hn.oth
          have H10 := Hp.keep hLk V8 P10 Hn.oth
          have k10 : _ ≤ T10.heap.size := Nat.le_trans kp P10.1
          have Sx6 := Sx6.keep P10 Hn.oth
          have Sx7 := Sx7.keep P10 Hn.oth
          have Sx8 := Sx8.keep P10 Hn.oth
          have Sx9 := Sx9.keep P10 Hn.oth
          have Sx10 := Sx10.keep P10 Hn.oth
          have Sx11 := Sx11.keep P10 Hn.oth
          have G := G.keep P10 Hn.oth
          have Hn := Hn2
          show Ends p e below _ T10 m 131 #[.val (.int p1), .val (.int p2), .val (.int p3), .val (.int p4), .val (.int p5), .val (.int p6), .val (.ref a_6), .val (.ref a_7), .val (.ref a_8), .val (.ref a_9), .val (.ref a_10), .val (.ref a_11), .val (.int o1), .val (.int o2), .val (.int o3), .val (.ref ad7), .unset, .unset, .unset] []
          have hcn4 := hcn
          obtain ⟨c4, hc4⟩ : ∃ c4, c4 = cnt := ⟨_, rfl⟩
          rw [← hc4] at Hn r1 r2 hcn4
          have J6 : ∀ (ps us : List Value) (cnt : Int32) (nc : Nat) (hq : Heap) (Tq : State) (locsq : List Loc), cnt.toInt = nc → cts.length ≤ nc → nc ≤ 16 → ps.length = 16 → us.length = 16 → Stand p l e room_1 (s.setVm T8.vm) m #[(.int p1), (.int p2), (.int p3), (.int p4), (.int p5), (.int p6)] below meth c Tq locsq 24 288 → Fr n0 locsq → Tq.heap = hq → n0 ≤ hq.size → T8.heap.size ≤ hq.size → HB Z own_cs T8.vm hq → Gd Z hq → Str Z hq a_6 b_6 → Str Z hq a_7 b_7 → Str Z hq a_8 b_8 → Str Z hq a_9 b_9 → Str Z hq a_10 b_10 → Str Z hq a_11 b_11 → Nsp Z hq ad7 pa ua sa ps us (wr (wr ss 0 2) (0 + 1) c4) cnt (0 + 1 + 1) → Tab Z hq ps us cts → Ends p e below (PostW s 56 6400 (fun v h vm L => v = some (.int 1) ∧ Fr n0 L)) Tq m 159 #[.val (.int p1), .val (.int p2), .val (.int p3), .val (.int p4), .val (.int p5), .val (.int p6), .val (.ref a_6), .val (.ref a_7), .val (.ref a_8), .val (.ref a_9), .val (.ref a_10), .val (.ref a_11), .val (.int o1), .val (.int o2), .val (.int o3), .val (.ref ad7), .unset, .unset, .unset] [] := by
            intro ps us cnt nc hq Tq locsq hcn hle1 hle2 hps hus Xq Nq eq Zq kq Hq G Sx6 Sx7 Sx8 Sx9 Sx10 Sx11 Hn T0
            refine eALoad Xq hx (hb hby at_159) rfl rfl rfl ?_
            refine eCallV Xq hx V8 (y := (⟨"com/example/shapelint/shapelint/reader/Namespaces", "close", "()V"⟩ : MethodName)) O8 (hw _ (List.mem_of_getElem? (i := 67) rfl)) (hw _ (List.mem_of_getElem? (i := 68) rfl)) (hw _ (List.mem_of_getElem? (i := 70) rfl)) (hw _ (List.mem_of_getElem? (i := 69) rfl)) (hw _ (List.mem_of_getElem? (i := 35) rfl)) (hw _ (List.mem_of_getElem? (i := 71) rfl)) (by decide) eq Hn.1 (rm10 l Z a0 hw [] ad7 pa ua sa ps us (wr (wr ss 0 2) (0 + 1) c4) cnt (0 + 1 + 1) c4 nc cts.length hq n0 Zq Hn r1 r2 hcn4 hcn hle1 hle2 hps hus ge7 gpa gua gsa) (argsL := []) (rest := []) (lenOf own_pd9 rfl) rfl (by rw [hml]; rfl) 0 (by exact Nat.le_refl _) (by decide) (by decide) (by decide) (by decide) (hb hby at_161) rfl (fun v11 T11 L11 q11 (X11 : Stand _ _ _ _ _ _ _ _ _ _ T11 _ 24 288)  => ?_)
            obtain ⟨N11', P11, rfl, ps2, us2, l1, l2, hag, Hn2⟩ := q11
            have N11 := Fr.app Nq N11'
            have Z11 := Nat.le_trans Zq P11.1
            have T0 := (T0.agree hag).keep P11 Hn.oth
            have H11 := Hq.keep hLk V8 P11 Hn.oth
            have k11 : _ ≤ T11.heap.size := Nat.le_trans kq P11.1
            have Sx6 := Sx6.keep P11 Hn.oth
            have Sx7 := Sx7.keep P11 Hn.oth
            have Sx8 := Sx8.keep P11 Hn.oth
            have Sx9 := Sx9.keep P11 Hn.oth
            have Sx10 := Sx10.keep P11 Hn.oth
            have Sx11 := Sx11.keep P11 Hn.oth
            have G := G.keep P11 Hn.oth
            have Hn := Hn2
            show Ends p e below _ T11 m 164 #[.val (.int p1), .val (.int p2), .val (.int p3), .val (.int p4), .val (.int p5), .val (.int p6), .val (.ref a_6), .val (.ref a_7), .val (.ref a_8), .val (.ref a_9), .val (.ref a_10), .val (.ref a_11), .val (.int o1), .val (.int o2), .val (.int o3), .val (.ref ad7), .unset, .unset, .unset] []
            refine eALoad X11 hx (hb hby at_164) rfl rfl rfl ?_
            refine eALoad X11 hx (hb hby at_166) rfl rfl rfl ?_
            refine eCallV X11 hx V8 (y := (⟨"com/example/shapelint/shapelint/reader/Namespaces", "getNamespaceURI", "(Ljava/lang/String;)Ljava/lang/String;"⟩ : MethodName)) O8 (hw _ (List.mem_of_getElem? (i := 72) rfl)) (hw _ (List.mem_of_getElem? (i := 73) rfl)) (hw _ (List.mem_of_getElem? (i := 75) rfl)) (hw _ (List.mem_of_getElem? (i := 74) rfl)) (hw _ (List.mem_of_getElem? (i := 35) rfl)) (hw _ (List.mem_of_getElem? (i := 76) rfl)) (by decide) (rfl : T11.heap = T11.heap) Hn.1 (rm11 l Z a0 hw [] ad7 a_6 pa ua sa ps2 us2 (wr (wr ss 0 2) (0 + 1) c4) c4 (0 + 1 + 1 - 1) cts b_6 T11.heap n0 Z11 Hn G Sx6 T0 hcn4 (by omega)) (argsL := [(.ref a_6)]) (rest := []) (lenOf own_pd10 rfl) rfl (by rw [hml]; rfl) 0 (by exact Nat.le_refl _) (by decide) (by decide) (by decide) (by decide) (hb hby at_168) rfl (fun v12 T12 L12 q12 (X12 : Stand _ _ _ _ _ _ _ _ _ _ T12 _ 24 288)  => ?_)
            obtain ⟨N12', e12, w12, rfl, C12⟩ := q12
            have N12 := Fr.app N11 N12'
            show Ends p e below _ T12 m 171 #[.val (.int p1), .val (.int p2), .val (.int p3), .val (.int p4), .val (.int p5), .val (.int p6), .val (.ref a_6), .val (.ref a_7), .val (.ref a_8), .val (.ref a_9), .val (.ref a_10), .val (.ref a_11), .val (.int o1), .val (.int o2), .val (.int o3), .val (.ref ad7), .unset, .unset, .unset] [w12]
            refine eILoad X12 hx (hb hby at_171) rfl rfl ?_
            refine eALoad X12 hx (hb hby at_173) rfl rfl rfl ?_
            refine eALoad X12 hx (hb hby at_175) rfl rfl rfl ?_
            refine eALoad X12 hx (hb hby at_177) rfl rfl rfl ?_
            refine eCallSW X12 hx V8 (y := (⟨"com/example/shapelint/shapelint/reader/NamespacesClosePinLaw", "expected", "(ZLjava/lang/String;Ljava/lang/String;Ljava/lang/String;)Ljava/lang/String;"⟩ : MethodName)) O8 (hw _ (List.mem_of_getElem? (i := 82) rfl)) (hw _ (List.mem_of_getElem? (i := 83) rfl)) (hw _ (List.mem_of_getElem? (i := 2) rfl)) (hw _ (List.mem_of_getElem? (i := 84) rfl)) (by decide) hLk e12 S8 k11 H11 (rm13 l Z a0 hw [] o1 a_6 a_7 a_6 b_6 b_7 b_6 T11.heap n0 Z11 G Sx6 Sx7 Sx6) (argsL := [(.int o1), (.ref a_6), (.ref a_7), (.ref a_6)]) (rest := [w12]) (lenOf own_pd11 rfl) rfl (by rw [hml]; rfl) 1 (by simp [C12.cat]) (by decide) (by decide) (by decide) (by decide) (hb hby at_179) rfl (fun v13 T13 L13 q13 (X13 : Stand _ _ _ _ _ _ _ _ _ _ T13 _ 28 452) S13 V13 O13 => ?_)
            obtain ⟨N13', E13, H13, w13, rfl, C13⟩ := q13
            have N13 := Fr.app N12 N13'
            have Z13 := Nat.le_trans Z11 E13.1
            have Sx6 := Sx6.ext E13
            have Sx7 := Sx7.ext E13
            have Sx8 := Sx8.ext E13
            have Sx9 := Sx9.ext E13
            have Sx10 := Sx10.ext E13
            have Sx11 := Sx11.ext E13
            have G := G.keep (Keep.of_ext E13) Oth.nil
            have Hn := Hn.ext E13
            have T0 := T0.keep (Keep.of_ext E13) Oth.nil
            have C12 := C12.ext E13
            show Ends p e below _ T13 m 182 #[.val (.int p1), .val (.int p2), .val (.int p3), .val (.int p4), .val (.int p5), .val (.int p6), .val (.ref a_6), .val (.ref a_7), .val (.ref a_8), .val (.ref a_9), .val (.ref a_10), .val (.ref a_11), .val (.int o1), .val (.int o2), .val (.int o3), .val (.ref ad7), .unset, .unset, .unset] [w13, w12]
            refine eCallS X13 hx V13 (y := (⟨"com/example/shapelint/shapelint/reader/NamespacesClosePinLaw", "same", "(Ljava/lang/String;Ljava/lang/String;)Z"⟩ : MethodName)) O13 (hw _ (List.mem_of_getElem? (i := 86) rfl)) (hw _ (List.mem_of_getElem? (i := 87) rfl)) (hw _ (List.mem_of_getElem? (i := 2) rfl)) (hw _ (List.mem_of_getElem? (i := 88) rfl)) (by decide) (rfl : T13.heap = T13.heap) (rm14 l Z a0 hw [] w12 w13 (look cts b_6) (own_exp o1 b_6 b_7 b_6) T13.heap n0 Z13 G C12 C13) (argsL := [w12, w13]) (rest := []) (lenOf own_pd12 rfl) rfl (by rw [hml]; rfl) 0 (by exact Nat.le_refl _) (by decide) (by decide) (by decide) (by decide) (hb hby at_182) rfl (fun v14 T14 L14 q14 (X14 : Stand _ _ _ _ _ _ _ _ _ _ T14 _ 28 452)  => ?_)
            obtain ⟨N14', e14, rfl⟩ := q14
            have N14 := Fr.app N13 N14'
            show Ends p e below _ T14 m 185 #[.val (.int p1), .val (.int p2), .val (.int p3), .val (.int p4), .val (.int p5), .val (.int p6), .val (.ref a_6), .val (.ref a_7), .val (.ref a_8), .val (.ref a_9), .val (.ref a_10), .val (.ref a_11), .val (.int o1), .val (.int o2), .val (.int o3), .val (.ref ad7), .unset, .unset, .unset] [(.int (if look cts b_6 = own_exp o1 b_6 b_7 b_6 then 1 else 0))]
            rw [if_pos (hlook b_6)]
            refine eIStore X14 hx (hb hby at_185) (L' := #[.val (.int p1), .val (.int p2), .val (.int p3), .val (.int p4), .val (.int p5), .val (.int p6), .val (.ref a_6), .val (.ref a_7), .val (.ref a_8), .val (.ref a_9), .val (.ref a_10), .val (.ref a_11), .val (.int o1), .val (.int o2), .val (.int o3), .val (.ref ad7), .val (.int 1), .unset, .unset]) rfl rfl ?_
            refine eALoad X14 hx (hb hby at_187) rfl rfl rfl ?_
            refine eALoad X14 hx (hb hby at_189) rfl rfl rfl ?_
            refine eCallV X14 hx V13 (y := (⟨"com/example/shapelint/shapelint/reader/Namespaces", "getNamespaceURI", "(Ljava/lang/String;)Ljava/lang/String;"⟩ : MethodName)) O13 (hw _ (List.mem_of_getElem? (i := 72) rfl)) (hw _ (List.mem_of_getElem? (i := 73) rfl)) (hw _ (List.mem_of_getElem? (i := 75) rfl)) (hw _ (List.mem_of_getElem? (i := 74) rfl)) (hw _ (List.mem_of_getElem? (i := 35) rfl)) (hw _ (List.mem_of_getElem? (i := 76) rfl)) (by decide) e14 Hn.1 (rm11 l Z a0 hw [] ad7 a_8 pa ua sa ps2 us2 (wr (wr ss 0 2) (0 + 1) c4) c4 (0 + 1 + 1 - 1) cts b_8 T13.heap n0 Z13 Hn G Sx8 T0 hcn4 (by omega)) (argsL := [(.ref a_8)]) (rest := []) (lenOf own_pd10 rfl) rfl (by rw [hml]; rfl) 0 (by exact Nat.le_refl _) (by decide) (by decide) (by decide) (by decide) (hb hby at_191) rfl (fun v15 T15 L15 q15 (X15 : Stand _ _ _ _ _ _ _ _ _ _ T15 _ 28 452)  => ?_)
            obtain ⟨N15', e15, w15, rfl, C15⟩ := q15
            have N15 := Fr.app N14 N15'
            show Ends p e below _ T15 m 194 #[.val (.int p1), .val (.int p2), .val (.int p3), .val (.int p4), .val (.int p5), .val (.int p6), .val (.ref a_6), .val (.ref a_7), .val (.ref a_8), .val (.ref a_9), .val (.ref a_10), .val (.ref a_11), .val (.int o1), .val (.int o2), .val (.int o3), .val (.ref ad7), .val (.int 1), .unset, .unset] [w15]
            refine eILoad X15 hx (hb hby at_194) rfl rfl ?_
            refine eALoad X15 hx (hb hby at_196) rfl rfl rfl ?_
            refine eALoad X15 hx (hb hby at_198) rfl rfl rfl ?_
            refine eALoad X15 hx (hb hby at_200) rfl rfl rfl ?_
            refine eCallSW X15 hx V13 (y := (⟨"com/example/shapelint/shapelint/reader/NamespacesClosePinLaw", "expected", "(ZLjava/lang/String;Ljava/lang/String;Ljava/lang/String;)Ljava/lang/String;"⟩ : MethodName)) O13 (hw _ (List.mem_of_getElem? (i := 82) rfl)) (hw _ (List.mem_of_getElem? (i := 83) rfl)) (hw _ (List.mem_of_getElem? (i := 2) rfl)) (hw _ (List.mem_of_getElem? (i := 84) rfl)) (by decide) hLk e15 S13 (Nat.le_refl _) H13 (rm13 l Z a0 hw [] o1 a_6 a_7 a_8 b_6 b_7 b_8 T13.heap n0 Z13 G Sx6 Sx7 Sx8) (argsL := [(.int o1), (.ref a_6), (.ref a_7), (.ref a_8)]) (rest := [w15]) (lenOf own_pd11 rfl) rfl (by rw [hml]; rfl) 1 (by simp [C15.cat]) (by decide) (by decide) (by decide) (by decide) (hb hby at_202) rfl (fun v16 T16 L16 q16 (X16 : Stand _ _ _ _ _ _ _ _ _ _ T16 _ 32 616) S16 V16 O16 => ?_)
            obtain ⟨N16', E16, H16, w16, rfl, C16⟩ := q16
            have N16 := Fr.app N15 N16'
            have Z16 := Nat.le_trans Z13 E16.1
            have Sx6 := Sx6.ext E16
            have Sx7 := Sx7.ext E16
            have Sx8 := Sx8.ext E16
            have Sx9 := Sx9.ext E16
            have Sx10 := Sx10.ext E16
            have Sx11 := Sx11.ext E16
            have G := G.keep (Keep.of_ext E16) Oth.nil
            have Hn := Hn.ext E16
            have T0 := T0.keep (Keep.of_ext E16) Oth.nil
            have C15 := C15.ext E16
            show Ends p e below _ T16 m 205 #[.val (.int p1), .val (.int p2), .val (.int p3), .val (.int p4), .val (.int p5), .val (.int p6), .val (.ref a_6), .val (.ref a_7), .val (.ref a_8), .val (.ref a_9), .val (.ref a_10), .val (.ref a_11), .val (.int o1), .val (.int o2), .val (.int o3), .val (.ref ad7), .val (.int 1), .unset, .unset] [w16, w15]
            refine eCallS X16 hx V16 (y := (⟨"com/example/shapelint/shapelint/reader/NamespacesClosePinLaw", "same", "(Ljava/lang/String;Ljava/lang/String;)Z"⟩ : MethodName)) O16 (hw _ (List.mem_of_getElem? (i := 86) rfl)) (hw _ (List.mem_of_getElem? (i := 87) rfl)) (hw _ (List.mem_of_getElem? (i := 2) rfl)) (hw _ (List.mem_of_getElem? (i := 88) rfl)) (by decide) (rfl : T16.heap = T16.heap) (rm14 l Z a0 hw [] w15 w16 (look cts b_8) (own_exp o1 b_6 b_7 b_8) T16.heap n0 Z16 G C15 C16) (argsL := [w15, w16]) (rest := []) (lenOf own_pd12 rfl) rfl (by rw [hml]; rfl) 0 (by exact Nat.le_refl _) (by decide) (by decide) (by decide) (by decide) (hb hby at_205) rfl (fun v17 T17 L17 q17 (X17 : Stand _ _ _ _ _ _ _ _ _ _ T17 _ 32 616)  => ?_)
            obtain ⟨N17', e17, rfl⟩ := q17
            have N17 := Fr.app N16 N17'
            show Ends p e below _ T17 m 208 #[.val (.int p1), .val (.int p2), .val (.int p3), .val (.int p4), .val (.int p5), .val (.int p6), .val (.ref a_6), .val (.ref a_7), .val (.ref a_8), .val (.ref a_9), .val (.ref a_10), .val (.ref a_11), .val (.int o1), .val (.int o2), .val (.int o3), .val (.ref ad7), .val (.int 1), .unset, .unset] [(.int (if look cts b_8 = own_exp o1 b_6 b_7 b_8 then 1 else 0))]
            rw [if_pos (hlook b_8)]
            refine eIStore X17 hx (hb hby at_208) (L' := #[.val (.int p1), .val (.int p2), .val (.int p3), .val (.int p4), .val (.int p5), .val (.int p6), .val (.ref a_6), .val (.ref a_7), .val (.ref a_8), .val (.ref a_9), .val (.ref a_10), .val (.ref a_11), .val (.int o1), .val (.int o2), .val (.int o3), .val (.ref ad7), .val (.int 1), .val (.int 1), .unset]) rfl rfl ?_
            refine eALoad X17 hx (hb hby at_210) rfl rfl rfl ?_
            refine eALoad X17 hx (hb hby at_212) rfl rfl rfl ?_
            refine eCallV X17 hx V16 (y := (⟨"com/example/shapelint/shapelint/reader/Namespaces", "getNamespaceURI", "(Ljava/lang/String;)Ljava/lang/String;"⟩ : MethodName)) O16 (hw _ (List.mem_of_getElem? (i := 72) rfl)) (hw _ (List.mem_of_getElem? (i := 73) rfl)) (hw _ (List.mem_of_getElem? (i := 75) rfl)) (hw _ (List.mem_of_getElem? (i := 74) rfl)) (hw _ (List.mem_of_getElem? (i := 35) rfl)) (hw _ (List.mem_of_getElem? (i := 76) rfl)) (by decide) e17 Hn.1 (rm11 l Z a0 hw [] ad7 a_10 pa ua sa ps2 us2 (wr (wr ss 0 2) (0 + 1) c4) c4 (0 + 1 + 1 - 1) cts b_10 T16.heap n0 Z16 Hn G Sx10 T0 hcn4 (by omega)) (argsL := [(.ref a_10)]) (rest := []) (lenOf own_pd10 rfl) rfl (by rw [hml]; rfl) 0 (by exact Nat.le_refl _) (by decide) (by decide) (by decide) (by decide) (hb hby at_214) rfl (fun v18 T18 L18 q18 (X18 : Stand _ _ _ _ _ _ _ _ _ _ T18 _ 32 616)  => ?_)
            obtain ⟨N18', e18, w18, rfl, C18⟩ := q18
            have N18 := Fr.app N17 N18'
            show Ends p e below _ T18 m 217 #[.val (.int p1), .val (.int p2), .val (.int p3), .val (.int p4), .val (.int p5), .val (.int p6), .val (.ref a_6), .val (.ref a_7), .val (.ref a_8), .val (.ref a_9), .val (.ref a_10), .val (.ref a_11), .val (.int o1), .val (.int o2), .val (.int o3), .val (.ref ad7), .val (.int 1), .val (.int 1), .unset] [w18]
            refine eILoad X18 hx (hb hby at_217) rfl rfl ?_
            refine eALoad X18 hx (hb hby at_219) rfl rfl rfl ?_
            refine eALoad X18 hx (hb hby at_221) rfl rfl rfl ?_
            refine eALoad X18 hx (hb hby at_223) rfl rfl rfl ?_
            refine eCallSW X18 hx V16 (y := (⟨"com/example/shapelint/shapelint/reader/NamespacesClosePinLaw", "expected", "(ZLjava/lang/String;Ljava/lang/String;Ljava/lang/String;)Ljava/lang/String;"⟩ : MethodName)) O16 (hw _ (List.mem_of_getElem? (i := 82) rfl)) (hw _ (List.mem_of_getElem? (i := 83) rfl)) (hw _ (List.mem_of_getElem? (i := 2) rfl)) (hw _ (List.mem_of_getElem? (i := 84) rfl)) (by decide) hLk e18 S16 (Nat.le_refl _) H16 (rm13 l Z a0 hw [] o1 a_6 a_7 a_10 b_6 b_7 b_10 T16.heap n0 Z16 G Sx6 Sx7 Sx10) (argsL := [(.int o1), (.ref a_6), (.ref a_7), (.ref a_10)]) (rest := [w18]) (lenOf own_pd11 rfl) rfl (by rw [hml]; rfl) 1 (by simp [C18.cat]) (by decide) (by decide) (by decide) (by decide) (hb hby at_225) rfl (fun v19 T19 L19 q19 (X19 : Stand _ _ _ _ _ _ _ _ _ _ T19 _ 36 780) S19 V19 O19 => ?_)
            obtain ⟨N19', E19, H19, w19, rfl, C19⟩ := q19
            have N19 := Fr.app N18 N19'
            have Z19 := Nat.le_trans Z16 E19.1
            have Sx6 := Sx6.ext E19
            have Sx7 := Sx7.ext E19
            have Sx8 := Sx8.ext E19
            have Sx9 := Sx9.ext E19
            have Sx10 := Sx10.ext E19
            have Sx11 := Sx11.ext E19
            have G := G.keep (Keep.of_ext E19) Oth.nil
            have Hn := Hn.ext E19
            have T0 := T0.keep (Keep.of_ext E19) Oth.nil
            have C18 := C18.ext E19
            show Ends p e below _ T19 m 228 #[.val (.int p1), .val (.int p2), .val (.int p3), .val (.int p4), .val (.int p5), .val (.int p6), .val (.ref a_6), .val (.ref a_7), .val (.ref a_8), .val (.ref a_9), .val (.ref a_10), .val (.ref a_11), .val (.int o1), .val (.int o2), .val (.int o3), .val (.ref ad7), .val (.int 1), .val (.int 1), .unset] [w19, w18]
            refine eCallS X19 hx V19 (y := (⟨"com/example/shapelint/shapelint/reader/NamespacesClosePinLaw", "same", "(Ljava/lang/String;Ljava/lang/String;)Z"⟩ : MethodName)) O19 (hw _ (List.mem_of_getElem? (i := 86) rfl)) (hw _ (List.mem_of_getElem? (i := 87) rfl)) (hw _ (List.mem_of_getElem? (i := 2) rfl)) (hw _ (List.mem_of_getElem? (i := 88) rfl)) (by decide) (rfl : T19.heap = T19.heap) (rm14 l Z a0 hw [] w18 w19 (look cts b_10) (own_exp o1 b_6 b_7 b_10) T19.heap n0 Z19 G C18 C19) (argsL := [w18, w19]) (rest := []) (lenOf own_pd12 rfl) rfl (by rw [hml]; rfl) 0 (by exact Nat.le_refl _) (by decide) (by decide) (by decide) (by decide) (hb hby at_228) rfl (fun v20 T20 L20 q20 (X20 : Stand _ _ _ _ _ _ _ _ _ _ T20 _ 36 780)  => ?_)
            obtain ⟨N20', e20, rfl⟩ := q20
            have N20 := Fr.app N19 N20'
            show Ends p e below _ T20 m 231 #[.val (.int p1), .val (.int p2), .val (.int p3), .val (.int p4), .val (.int p5), .val (.int p6), .val (.ref a_6), .val (.ref a_7), .val (.ref a_8), .val (.ref a_9), .val (.ref a_10), .val (.ref a_11), .val (.int o1), .val (.int o2), .val (.int o3), .val (.ref ad7), .val (.int 1), .val (.int 1), .unset] [(.int (if look cts b_10 = own_exp o1 b_6 b_7 b_10 then 1 else 0))]
            rw [if_pos (hlook b_10)]
            refine eIStore X20 hx (hb hby at_231) (L' := #[.val (.int p1), .val (.int p2), .val (.int p3), .val (.int p4), .val (.int p5), .val (.int p6), .val (.ref a_6), .val (.ref a_7), .val (.ref a_8), .val (.ref a_9), .val (.ref a_10), .val (.ref a_11), .val (.int o1), .val (.int o2), .val (.int o3), .val (.ref ad7), .val (.int 1), .val (.int 1), .val (.int 1)]) rfl rfl ?_
            refine eILoad X20 hx (hb hby at_233) rfl rfl ?_
            refine eIfN X20 hx (hb hby at_235) ((if0 _ _).trans (feq (by decide : ¬ (1 : Int32) = 0)).1) rfl ?_
            refine eILoad X20 hx (hb hby at_238) rfl rfl ?_
            refine eIfN X20 hx (hb hby at_240) ((if0 _ _).trans (feq (by decide : ¬ (1 : Int32) = 0)).1) rfl ?_
            refine eILoad X20 hx (hb hby at_243) rfl rfl ?_
            refine eIfN X20 hx (hb hby at_245) ((if0 _ _).trans (feq (by decide : ¬ (1 : Int32) = 0)).1) rfl ?_
            refine eIConst X20 hx (1 : Int32) (hb hby at_248) rfl rfl ?_
            refine eGoto X20 hx (hb hby at_249) (by decide) (pc' := 253) rfl ?_
            exact eRetNW X20 hx S19 (by rw [e20]; exact (Nat.le_refl _)) (t := .boolean) Bd.returns (by simp) hlk (hb hby at_253) (by decide) (by decide) ⟨rfl, N20⟩
          have J5 : ∀ (ps us : List Value) (cnt : Int32) (nc : Nat) (hr : Heap) (Tr : State) (locsr : List Loc), cnt.toInt = nc → cts.length ≤ nc → nc ≤ 8 → ps.length = 16 → us.length = 16 → Stand p l e room_1 (s.setVm T8.vm) m #[(.int p1), (.int p2), (.int p3), (.int p4), (.int p5), (.int p6)] below meth c Tr locsr 24 288 → Fr n0 locsr → Tr.heap = hr → n0 ≤ hr.size → T8.heap.size ≤ hr.size → HB Z own_cs T8.vm hr → Gd Z hr → Str Z hr a_6 b_6 → Str Z hr a_7 b_7 → Str Z hr a_8 b_8 → Str Z hr a_9 b_9 → Str Z hr a_10 b_10 → Str Z hr a_11 b_11 → Nsp Z hr ad7 pa ua sa ps us (wr (wr ss 0 2) (0 + 1) c4) cnt (0 + 1 + 1) → Tab Z hr ps us cts → Ends p e below (PostW s 56 6400 (fun v h vm L => v = some (.int 1) ∧ Fr n0 L)) Tr m 145 #[.val (.int p1), .val (.int p2), .val (.int p3), .val (.int p4), .val (.int p5), .val (.int p6), .val (.ref a_6), .val (.ref a_7), .val (.ref a_8), .val (.ref a_9), .val (.ref a_10), .val (.ref a_11), .val (.int o1), .val (.int o2), .val (.int o3), .val (.ref ad7), .unset, .unset, .unset] [] := by
            intro ps us cnt nc hr Tr locsr hcn hle1 hle2 hps hus Xr Nr er Zr kr Hr G Sx6 Sx7 Sx8 Sx9 Sx10 Sx11 Hn T0
            refine eILoad Xr hx (hb hby at_145) rfl rfl ?_
            by_cases h3 : o3 = 0
            · skip
              refine eIfY Xr hx (hb hby at_147) ((if0 _ _).trans (teq h3).1) (by decide) (pc' := 159) rfl ?_
              exact J6 ps us cnt nc _ _ _ hcn hle1 (by omega) hps hus Xr Nr er Zr kr Hr G Sx6 Sx7 Sx8 Sx9 Sx10 Sx11 Hn T0
            · skip
              refine eIfN Xr hx (hb hby at_147) ((if0 _ _).trans (feq h3).1) rfl ?_
              refine eALoad Xr hx (hb hby at_150) rfl rfl rfl ?_
              refine eALoad Xr hx (hb hby at_152) rfl rfl rfl ?_
              refine eALoad Xr hx (hb hby at_154) rfl rfl rfl ?_
              have cn : cnt.toNatClampNeg = nc := own_cl hcn
              refine eCallV Xr hx V8 (y := (⟨"com/example/shapelint/shapelint/reader/Namespaces", "bind", "(Ljava/lang/String;Ljava/lang/String;)V"⟩ : MethodName)) O8 (hw _ (List.mem_of_getElem? (i := 66) rfl)) (hw _ (List.mem_of_getElem? (i := 52) rfl)) (hw _ (List.mem_of_getElem? (i := 54) rfl)) (hw _ (List.mem_of_getElem? (i := 53) rfl)) (hw _ (List.mem_of_getElem? (i := 35) rfl)) (hw _ (List.mem_of_getElem? (i := 55) rfl)) (by decide) er Hn.1 (rm8 l Z a0 hw [] ad7 a_10 a_11 pa ua sa ps us (wr (wr ss 0 2) (0 + 1) c4) cnt (0 + 1 + 1) hr n0 Zr Hn Sx10.1 Sx11.1 (own_nn hcn) (by omega) hps hus ge7 gpa gua gsa) (argsL := [(.ref a_10), (.ref a_11)]) (rest := []) (lenOf own_pd7 rfl) rfl (by rw [hml]; rfl) 0 (by exact Nat.le_refl _) (by decide) (by decide) (by decide) (by decide) (hb hby at_156) rfl (fun v21 T21 L21 q21 (X21 : Stand _ _ _ _ _ _ _ _ _ _ T21 _ 24 288)  => ?_)
              obtain ⟨N21', P21, rfl, Hn2⟩ := q21
              have N21 := Fr.app Nr N21'
              have Z21 := Nat.le_trans Zr P21.1
              have T0 := (T0.agree (ps' := ps.set cnt.toNatClampNeg (.ref a_10)) (us' := us.set cnt.toNatClampNeg (.ref a_11)) (fun i hi => ⟨List.getElem?_set_ne (by omega), List.getElem?_set_ne (by omega)⟩)).keep P21 Hn.oth
              have H21 := Hr.keep hLk V8 P21 Hn.oth
              have k21 : _ ≤ T21.heap.size := Nat.le_trans kr P21.1
              have Sx6 := Sx6.keep P21 Hn.oth
              have Sx7 := Sx7.keep P21 Hn.oth
              have Sx8 := Sx8.keep P21 Hn.oth
              have Sx9 := Sx9.keep P21 Hn.oth
              have Sx10 := Sx10.keep P21 Hn.oth
              have Sx11 := Sx11.keep P21 Hn.oth
              have G := G.keep P21 Hn.oth
              have Hn := Hn2
              show Ends p e below _ T21 m 159 #[.val (.int p1), .val (.int p2), .val (.int p3), .val (.int p4), .val (.int p5), .val (.int p6), .val (.ref a_6), .val (.ref a_7), .val (.ref a_8), .val (.ref a_9), .val (.ref a_10), .val (.ref a_11), .val (.int o1), .val (.int o2), .val (.int o3), .val (.ref ad7), .unset, .unset, .unset] []
              exact J6 _ _ (cnt + 1) (nc + 1) _ _ _ (own_inc hcn (by omega : nc < 17) (by omega)) (by omega) (by omega) (by simpa using hps) (by simpa using hus) X21 N21 (rfl : T21.heap = T21.heap) Z21 k21 H21 G Sx6 Sx7 Sx8 Sx9 Sx10 Sx11 Hn T0
          refine eILoad X10 hx (hb hby at_131) rfl rfl ?_
          rw [hc4] at Hn
          by_cases h2 : o2 = 0
          · skip
            refine eIfY X10 hx (hb hby at_133) ((if0 _ _).trans (teq h2).1) (by decide) (pc' := 145) rfl ?_
            rw [← hc4] at Hn hcn
            exact J5 ps us c4 cts.length _ _ _ hcn (Nat.le_refl _) (by omega) hps hus X10 N10 (rfl : T10.heap = T10.heap) Z10 k10 H10 G Sx6 Sx7 Sx8 Sx9 Sx10 Sx11 Hn T0
          · skip
            refine eIfN X10 hx (hb hby at_133) ((if0 _ _).trans (feq h2).1) rfl ?_
            refine eALoad X10 hx (hb hby at_136) rfl rfl rfl ?_
            refine eALoad X10 hx (hb hby at_138) rfl rfl rfl ?_
            refine eALoad X10 hx (hb hby at_140) rfl rfl rfl ?_
            subst hc4
            have cnt_ : c4 = c4 := rfl
            have cn : c4.toNatClampNeg = cts.length := own_cl hcn
            refine eCallV X10 hx V8 (y := (⟨"com/example/shapelint/shapelint/reader/Namespaces", "bind", "(Ljava/lang/String;Ljava/lang/String;)V"⟩ : MethodName)) O8 (hw _ (List.mem_of_getElem? (i := 66) rfl)) (hw _ (List.mem_of_getElem? (i := 52) rfl)) (hw _ (List.mem_of_getElem? (i := 54) rfl)) (hw _ (List.mem_of_getElem? (i := 53) rfl)) (hw _ (List.mem_of_getElem? (i := 35) rfl)) (hw _ (List.mem_of_getElem? (i := 55) rfl)) (by decide) (rfl : T10.heap = T10.heap) Hn.1 (rm8 l Z a0 hw [] ad7 a_8 a_9 pa ua sa ps us (wr (wr ss 0 2) (0 + 1) c4) c4 (0 + 1 + 1) T10.heap n0 Z10 Hn Sx8.1 Sx9.1 (own_nn hcn) (by omega) hps hus ge7 gpa gua gsa) (argsL := [(.ref a_8), (.ref a_9)]) (rest := []) (lenOf own_pd7 rfl) rfl (by rw [hml]; rfl) 0 (by exact Nat.le_refl _) (by decide) (by decide) (by decide) (by decide) (hb hby at_142) rfl (fun v22 T22 L22 q22 (X22 : Stand _ _ _ _ _ _ _ _ _ _ T22 _ 24 288)  => ?_)
            obtain ⟨N22', P22, rfl, Hn2⟩ := q22
            have N22 := Fr.app N10 N22'
            have Z22 := Nat.le_trans Z10 P22.1
            have T0 := (T0.agree (ps' := ps.set c4.toNatClampNeg (.ref a_8)) (us' := us.set c4.toNatClampNeg (.ref a_9)) (fun i hi => ⟨List.getElem?_set_ne (by omega), List.getElem?_set_ne (by omega)⟩)).keep P22 Hn.oth
            have H22 := H10.keep hLk V8 P22 Hn.oth
            have k22 : _ ≤ T22.heap.size := Nat.le_trans k10 P22.1
            have Sx6 := Sx6.keep P22 Hn.oth
            have Sx7 := Sx7.keep P22 Hn.oth
            have Sx8 := Sx8.keep P22 Hn.oth
            have Sx9 := Sx9.keep P22 Hn.oth
            have Sx10 := Sx10.keep P22 Hn.oth
            have Sx11 := Sx11.keep P22 Hn.oth
            have G := G.keep P22 Hn.oth
            have Hn := Hn2
            show Ends p e below _ T22 m 145 #[.val (.int p1), .val (.int p2), .val (.int p3), .val (.int p4), .val (.int p5), .val (.int p6), .val (.ref a_6), .val (.ref a_7), .val (.ref a_8), .val (.ref a_9), .val (.ref a_10), .val (.ref a_11), .val (.int o1), .val (.int o2), .val (.int o3), .val (.ref ad7), .unset, .unset, .unset] []
            exact J5 _ _ (c4 + 1) (cts.length + 1) _ _ _ (own_inc hcn (by omega : cts.length < 17) (by omega)) (by omega) (by omega) (by simpa using hps) (by simpa using hus) X22 N22 (rfl : T22.heap = T22.heap) Z22 k22 H22 G Sx6 Sx7 Sx8 Sx9 Sx10 Sx11 Hn T0
        by_cases h1 : o1 = 0
        · skip
          refine eIfY X9 hx (hb hby at_114) ((if0 _ _).trans (teq h1).1) (by decide) (pc' := 126) rfl ?_
          exact J4 ps us 2 [(bXml, bUri), ([], [])] _ _ _ (own_l0 h1) rfl (by decide) hps hus X9 N9 (rfl : T9.heap = T9.heap) Z9 k9 H9 G Sx6 Sx7 Sx8 Sx9 Sx10 Sx11 Hn T0
        · skip
          refine eIfN X9 hx (hb hby at_114) ((if0 _ _).trans (feq h1).1) rfl ?_
          refine eALoad X9 hx (hb hby at_117) rfl rfl rfl ?_
          refine eALoad X9 hx (hb hby at_119) rfl rfl rfl ?_
          refine eALoad X9 hx (hb hby at_121) rfl rfl rfl ?_
          refine eCallV X9 hx V8 (y := (⟨"com/example/shapelint/shapelint/reader/Namespaces", "bind", "(Ljava/lang/String;Ljava/lang/String;)V"⟩ : MethodName)) O8 (hw _ (List.mem_of_getElem? (i := 66) rfl)) (hw _ (List.mem_of_getElem? (i := 52) rfl)) (hw _ (List.mem_of_getElem? (i := 54) rfl)) (hw _ (List.mem_of_getElem? (i := 53) rfl)) (hw _ (List.mem_of_getElem? (i := 35) rfl)) (hw _ (List.mem_of_getElem? (i := 55) rfl)) (by decide) (rfl : T9.heap = T9.heap) Hn.1 (rm8 l Z a0 hw [] ad7 a_6 a_7 pa ua sa ps us (wr ss 0 2) 2 (0 + 1) T9.heap n0 Z9 Hn Sx6.1 Sx7.1 (by decide) (by decide) hps hus ge7 gpa gua gsa) (argsL := [(.ref a_6), (.ref a_7)]) (rest := []) (lenOf own_pd7 rfl) rfl (by rw [hml]; rfl) 0 (by exact Nat.le_refl _) (by decide) (by decide) (by decide) (by decide) (hb hby at_123) rfl (fun v23 T23 L23 q23 (X23 : Stand _ _ _ _ _ _ _ _ _ _ T23 _ 24 288)  => ?_)
          obtain ⟨N23', P23, rfl, Hn2⟩ := q23
          have N23 := Fr.app N9 N23'
          have Z23 := Nat.le_trans Z9 P23.1
          have T0 := (T0.snoc (by rw [hps]; decide) (by rw [hus]; decide) Sx6 Sx7).keep P23 Hn.oth
          have H23 := H9.keep hLk V8 P23 Hn.oth
          have k23 : _ ≤ T23.heap.size := Nat.le_trans k9 P23.1
          have Sx6 := Sx6.keep P23 Hn.oth
          have Sx7 := Sx7.keep P23 Hn.oth
          have Sx8 := Sx8.keep P23 Hn.oth
          have Sx9 := Sx9.keep P23 Hn.oth
          have Sx10 := Sx10.keep P23 Hn.oth
          have Sx11 := Sx11.keep P23 Hn.oth
          have G := G.keep P23 Hn.oth
          have Hn := Hn2
          show Ends p e below _ T23 m 126 #[.val (.int p1), .val (.int p2), .val (.int p3), .val (.int p4), .val (.int p5), .val (.int p6), .val (.ref a_6), .val (.ref a_7), .val (.ref a_8), .val (.ref a_9), .val (.ref a_10), .val (.ref a_11), .val (.int o1), .val (.int o2), .val (.int o3), .val (.ref ad7), .unset, .unset, .unset] []
          exact J4 _ _ (2 + 1) ([(bXml, bUri), ([], [])] ++ [(b_6, b_7)]) _ _ _ (own_l1 h1) (by show (2 + 1 : Int32).toInt = ((3 : Nat) : Int); decide) (by show 3 ≤ 3; decide) (by simpa using hps) (by simpa using hus) X23 N23 (rfl : T23.heap = T23.heap) Z23 k23 H23 G Sx6 Sx7 Sx8 Sx9 Sx10 Sx11 Hn T0
      by_cases c_o3 : (p6 &&& (4 : Int32)) = 0
      · skip
        refine eIfY X6 hx (hb hby at_88) ((if0 _ _).trans (teq c_o3).1) (by decide) (pc' := 95) rfl ?_
        refine eIConst X6 hx (0 : Int32) (hb hby at_95) rfl rfl ?_
        exact Jo3 _
      · skip
        refine eIfN X6 hx (hb hby at_88) ((if0 _ _).trans (feq c_o3).1) rfl ?_
        refine eIConst X6 hx (1 : Int32) (hb hby at_91) rfl rfl ?_
        refine eGoto X6 hx (hb hby at_92) (by decide) (pc' := 96) rfl ?_
        exact Jo3 _
    by_cases c_o2 : (p6 &&& (2 : Int32)) = 0
    · skip
      refine eIfY X6 hx (hb hby at_74) ((if0 _ _).trans (teq c_o2).1) (by decide) (pc' := 81) rfl ?_
      refine eIConst X6 hx (0 : Int32) (hb hby at_81) rfl rfl ?_
      exact Jo2 _
    · skip
      refine eIfN X6 hx (hb hby at_74) ((if0 _ _).trans (feq c_o2).1) rfl ?_
      refine eIConst X6 hx (1 : Int32) (hb hby at_77) rfl rfl ?_
      refine eGoto X6 hx (hb hby at_78) (by decide) (pc' := 82) rfl ?_
      exact Jo2 _
  by_cases c_o1 : (p6 &&& (1 : Int32)) = 0
  · skip
    refine eIfY X6 hx (hb hby at_60) ((if0 _ _).trans (teq c_o1).1) (by decide) (pc' := 67) rfl ?_
    refine eIConst X6 hx (0 : Int32) (hb hby at_67) rfl rfl ?_
    exact Jo1 _
  · skip
    refine eIfN X6 hx (hb hby at_60) ((if0 _ _).trans (feq c_o1).1) rfl ?_
    refine eIConst X6 hx (1 : Int32) (hb hby at_63) rfl rfl ?_
    refine eGoto X6 hx (hb hby at_64) (by decide) (pc' := 68) rfl ?_
    exact Jo1 _
set_option maxRecDepth 65536 in
set_option maxHeartbeats 40000000 in
theorem comes_1 {Post : Tables → Env → Array Value → State → Outcome → State → Prop} (hpost : ∀ tb e args s v u, (limb_1_1.after args s (.returned v) u = true ∧ limb_1_2.after args s (.returned v) u = true ∧ True) → FramedW s (.returned v) u (Jvm.fieldLocs frame_1_writes args s ++ Jvm.arrayLocs frame_1_arrays args s ++ Jvm.staticLocs frame_1_statics s) 56 6400 → Post tb e args s (.returned v) u) :
    ArmFor flags0 classFile x code maxLocals ret World_1 tables_1 room_1 Calls_1 rest_1 Pre_1 Post := by
  intro l hfl _ _ p e ha hc hk s m args below hf hA hF happ hP
  obtain ⟨hcalls, hrest, hpre⟩ := hP
  obtain ⟨-, -, -, hnamed, -, -, -, hat⟩ := (Spec.applies_iff hf).mp happ
  obtain ⟨hg, hn⟩ := and_e (Cond.before_iff.mp (show (Jvm.Cond.and given_1 narrow_1).before args s = true from hpre))
  obtain ⟨g1, g2⟩ := and_e hg
  obtain ⟨g3, g4⟩ := and_e g2
  obtain ⟨g5, g6⟩ := and_e g4
  obtain ⟨g7, g8⟩ := and_e g6
  obtain ⟨g9, g10⟩ := and_e g8
  obtain ⟨g11, g12⟩ := and_e g10
  obtain ⟨w0, w1, w2, w3, w4, w5, rfl⟩ : ∃ w0 w1 w2 w3 w4 w5 : Value, args = #[w0, w1, w2, w3, w4, w5] := by
    have hs : args.size = 6 := by simpa [Cond.value, given_1] using g1
    obtain ⟨L⟩ := args
    match L, hs with
    | [w0, w1, w2, w3, w4, w5], _ => exact ⟨w0, w1, w2, w3, w4, w5, rfl⟩
  have hw := fun d (hd : d ∈ tables_1) => atoms_spec (ws := Jvm.Cond.code x code maxLocals ret :: tables_1) hat d (List.mem_cons_of_mem _ hd)
  have hfit : Fit s := fun {y c} hc i hi => by
    obtain ⟨ha, rfl⟩ := Array.getElem?_eq_some_iff.mp hc
    have q := List.all_eq_true.mp ((Array.all_eq_true_iff_forall_mem.mp hF) _ (Array.getElem_mem ha)) i (List.mem_range.mpr hi)
    simpa [Array.getElem?_eq_getElem hi] using q
  obtain ⟨hsets, hown0⟩ := atoms_of _ (rest_1_c_eq ▸ (show rest_1_c.before _ s = true from hrest))
  have hr0 := Cond.before_iff.mp hown0
  obtain ⟨z, ez⟩ := is_v (Cond.before_iff.mp (hsets _ (List.mem_of_getElem? (i := 1) rfl)))
  have hcw := hsets _ (List.mem_of_getElem? (i := 2) rfl)
  have hz : z ≠ 0 := fun q => by
    subst q
    simp [Cond.before, Cond.holds, Cond.value, Term.eval] at hcw ez
    rw [ez] at hcw
    simp at hcw
  have G : Gd s s.heap := ⟨z, hz, Sta.start ez (Or.inl (hsets _ (List.mem_of_getElem? (i := 0) rfl)))⟩
  have hLk := own_lnk hw
  have hSA := own_sa hw
  have HB0 : HB s own_cs s.vm s.heap := fun o i t q => by
    have hm : (o, i) ∈ consts_1 := by
      simp only [own_cs, List.mem_cons, List.not_mem_nil, or_false, Prod.mk.injEq] at q
      rcases q with ⟨rfl, rfl, rfl⟩ | ⟨rfl, rfl, rfl⟩ | ⟨rfl, rfl, rfl⟩ | ⟨rfl, rfl, rfl⟩ | ⟨rfl, rfl, rfl⟩ | ⟨rfl, rfl, rfl⟩ <;> simp [consts_1]
    have ht : ∀ c ∈ t.toList, c.toNat < 256 := by
      simp only [own_cs, List.mem_cons, List.not_mem_nil, or_false, Prod.mk.injEq] at q
      rcases q with ⟨rfl, rfl, rfl⟩ | ⟨rfl, rfl, rfl⟩ | ⟨rfl, rfl, rfl⟩ | ⟨rfl, rfl, rfl⟩ | ⟨rfl, rfl, rfl⟩ | ⟨rfl, rfl, rfl⟩ <;> first | exact own_tx_0.1 | exact own_tx_3.1 | exact own_tx_36.1
    have hc1 : Jvm.Lit.constHeld s o i := hcalls.1 (o, i) hm
    have hH : ConstHeldL s o i := heldStart hc1 (hLk o i t q) ht hcw (hSA _ (by simp [Bundle.stringAtoms])) (hSA _ (by simp [Bundle.stringAtoms, Bundle.sN]))
    exact hH
  obtain ⟨i0, ei0⟩ := is_v g3
  obtain rfl : w0 = (.int i0) := Option.some.inj ei0
  obtain ⟨i1, ei1⟩ := is_v g5
  obtain rfl : w1 = (.int i1) := Option.some.inj ei1
  obtain ⟨i2, ei2⟩ := is_v g7
  obtain rfl : w2 = (.int i2) := Option.some.inj ei2
  obtain ⟨i3, ei3⟩ := is_v g9
  obtain rfl : w3 = (.int i3) := Option.some.inj ei3
  obtain ⟨i4, ei4⟩ := is_v g11
  obtain rfl : w4 = (.int i4) := Option.some.inj ei4
  obtain ⟨i5, ei5⟩ := is_v g12
  obtain rfl : w5 = (.int i5) := Option.some.inj ei5
  obtain ⟨n, o, h1, h2, h3, _, L, rfl, ⟨hv, N⟩, hq⟩ := rm0 l s _ hw tables_1 i0 i1 i2 i3 i4 i5 s.heap s.heap.size (Nat.le_refl _) G p e ha hc hk s m _ below hf ((Spec.applies_iff_loose hf).mp happ).1 ⟨rfl, State.Warmed39.refl s, rfl, HB0⟩ trivial
  skip
  subst hv
  refine ⟨n, _, h1, h2, h3, hpost _ _ _ _ _ _ ⟨Cond.after_iff.mpr rfl, Cond.after_iff.mpr (eq_i res_at (Term.int_eval (1)) rfl), trivial⟩ ⟨hq.1, hq.2.1, hq.2.2.1, (hq.2.2.2.sift fun y hy => Or.inr (N y hy)).mono (by decide) (by decide)⟩⟩
theorem main_1_1 : Claimed_1_1 := comes_1 fun _ _ _ _ _ _ h hF => ⟨h.1, hF⟩
theorem main_1_2 : Claimed_1_2 := comes_1 fun _ _ _ _ _ _ h hF => ⟨h.2.1, hF⟩
end Jvm.Pilot.@@N@@
namespace Jvm.Pilot.@@N@@
open Jvm Jvm.ClassFile Sem Op Lib Jvm.Free Jvm.Stand Jvm.Pilot.@@N@@.Jvm.D
/-! The start's world holds an empty interface javax/xml/namespace/NamespaceContext (its file isn't among the statement's): the class Namespaces names it. -/
/-! MADE BY PROGRAM (witnessworld.py) out of the Statement's table words and the real class files: 19 classes; the members and pool entries that the words name. The judged class is class 1, her method 4. -/
namespace start1
open Jvm.ClassFile
def u (s : String) : CpInfo := .utf8 (stringToUtf16 s)
/-- a pool by its gaps: so many unusable entries, then the entry; so many at the end -/
def gap : Nat → List CpInfo → List CpInfo
  | 0, r => r
  | n + 1, r => .unusable :: gap n r
def poolList (es : List (Nat × CpInfo)) (last : Nat) : List CpInfo := es.foldr (fun e r => gap e.1 (e.2 :: r)) (gap last [])
def pool (es : List (Nat × CpInfo)) (last : Nat) : Array CpInfo := ⟨poolList es last⟩
def fileOf (pool : Array CpInfo) (this : Nat) (attrs : Array Attribute := #[]) (ms : Array MethodInfo := #[]) (fl : Nat := 33) (sup : Nat := 0) (ifs : Array Nat := #[]) (fds : Array FieldInfo := #[]) : ClassFile where
  minorVersion := 0
  majorVersion := 65
  constantPool := pool
  accessFlags := fl
  thisClass := this
  superClass := sup
  interfaces := ifs
  fields := fds
  methods := ms
  attributes := attrs
def plain (name : String) (sup : Option ClassId) : Class where
  name := name
  kind := .ordinary
  loader := none
  accessFlags := 33
  super := sup
  interfaces := #[]
  cf := none
  fields := #[]
  methods := #[]
  instanceTypes := #[]
  staticTypes := #[]
  resolved := #[]
  callSites := []
  init := .initialized
  statics := none
  mirror := none

def pool0 : Array CpInfo := pool [(5, u "<init>"), (0, u "()V"), (1, .class_ 10), (1, u "java/lang/Object")] 113

def k0c0 : Code := { maxStack := 0, maxLocals := 1, code := object_method_1_code, exceptionTable := #[], attributes := #[] }
def k0m0 : Method := { name := "<init>", desc := "()V", sig := { parameters := [], returnType := none }, accessFlags := 1, code := some k0c0 }
/-- java/lang/Object -/
def k0 : Class := { plain "java/lang/Object" none with
  accessFlags := 33
  interfaces := #[]
  cf := some (fileOf pool0 8 #[] #[{ accessFlags := 1, nameIndex := 5, descriptorIndex := 6, attributes := #[] }] 33 0 #[] #[])
  fields := #[]
  methods := #[k0m0]
  instanceTypes := #[]
  staticTypes := #[]
  resolved := Array.replicate 124 none
  statics := none }

def pool1 : Array CpInfo := pool [(2, .class_ 4), (0, .nameAndType 5 6), (0, u "java/lang/Object"), (0, u "<init>"), (0, u "()V"), (0, .string 8), (0, u ""), (0, .string 10), (0, u "xml"), (0, .methodref 12 13), (0, .class_ 14), (0, .nameAndType 15 16), (0, u "java/lang/String"), (0, u "valueOf"), (0, u "(C)Ljava/lang/String;"), (0, .methodref 12 18), (0, .nameAndType 19 20), (0, u "equals"), (0, u "(Ljava/lang/Object;)Z"), (0, .string 22), (0, u "http://www.w3.org/XML/1998/namespace"), (0, .methodref 12 24), (0, .nameAndType 25 26), (0, u "isEmpty"), (0, u "()Z"), (0, .methodref 28 29), (0, .class_ 30), (0, .nameAndType 31 32), (0, u "com/example/shapelint/shapelint/reader/NamespacesClosePinLaw"), (0, u "prefix"), (0, u "(I)Ljava/lang/String;"), (0, .class_ 34), (0, u "com/example/shapelint/shapelint/reader/Namespaces"), (0, .methodref 33 3), (0, .methodref 33 37), (0, .nameAndType 38 6), (0, u "open"), (0, .methodref 33 40), (0, .nameAndType 41 42), (0, u "bind"), (0, u "(Ljava/lang/String;Ljava/lang/String;)V"), (0, .methodref 33 44), (0, .nameAndType 45 6), (0, u "close"), (0, .methodref 33 47), (0, .nameAndType 48 49), (0, u "getNamespaceURI"), (0, u "(Ljava/lang/String;)Ljava/lang/String;"), (0, .methodref 28 51), (0, .nameAndType 52 53), (0, u "expected"), (0, u "(ZLjava/lang/String;Ljava/lang/String;Ljava/lang/String;)Ljava/lang/String;"), (0, .methodref 28 55), (0, .nameAndType 56 57), (0, u "same"), (0, u "(Ljava/lang/String;Ljava/lang/String;)Z"), (3, u "law"), (0, u "(IIIIII)Z")] 2

def k1m0 : Method := { name := "<init>", desc := "()V", sig := { parameters := [], returnType := none }, accessFlags := 1, code := none }
def k1c1 : Code := { maxStack := 2, maxLocals := 2, code := method_2_code, exceptionTable := #[], attributes := #[] }
def k1m1 : Method := { name := "prefix", desc := "(I)Ljava/lang/String;", sig := { parameters := [.int], returnType := some (.object "java/lang/String") }, accessFlags := 10, code := some k1c1 }
def k1c2 : Code := { maxStack := 2, maxLocals := 4, code := method_3_code, exceptionTable := #[], attributes := #[] }
def k1m2 : Method := { name := "expected", desc := "(ZLjava/lang/String;Ljava/lang/String;Ljava/lang/String;)Ljava/lang/String;", sig := { parameters := [.boolean, (.object "java/lang/String"), (.object "java/lang/String"), (.object "java/lang/String")], returnType := some (.object "java/lang/String") }, accessFlags := 10, code := some k1c2 }
def k1c3 : Code := { maxStack := 2, maxLocals := 2, code := method_4_code, exceptionTable := #[], attributes := #[] }
def k1m3 : Method := { name := "same", desc := "(Ljava/lang/String;Ljava/lang/String;)Z", sig := { parameters := [(.object "java/lang/String"), (.object "java/lang/String")], returnType := some .boolean }, accessFlags := 10, code := some k1c3 }
def k1c4 : Code := { maxStack := 5, maxLocals := 19, code := code, exceptionTable := #[], attributes := #[] }
def k1m4 : Method := { name := "law", desc := "(IIIIII)Z", sig := { parameters := [.int, .int, .int, .int, .int, .int], returnType := some .boolean }, accessFlags := 9, code := some k1c4 }
/-- com/example/shapelint/shapelint/reader/NamespacesClosePinLaw -/
def k1 : Class := { plain "com/example/shapelint/shapelint/reader/NamespacesClosePinLaw" (some 0) with
  accessFlags := 49
  interfaces := #[]
  cf := some (fileOf pool1 28 #[] #[{ accessFlags := 1, nameIndex := 5, descriptorIndex := 6, attributes := #[] }, { accessFlags := 10, nameIndex := 31, descriptorIndex := 32, attributes := #[] }, { accessFlags := 10, nameIndex := 52, descriptorIndex := 53, attributes := #[] }, { accessFlags := 10, nameIndex := 56, descriptorIndex := 57, attributes := #[] }, { accessFlags := 9, nameIndex := 61, descriptorIndex := 62, attributes := #[] }] 49 2 #[] #[])
  fields := #[]
  methods := #[k1m0, k1m1, k1m2, k1m3, k1m4]
  instanceTypes := #[]
  staticTypes := #[]
  resolved := Array.replicate 65 none
  statics := none }

def pool2 : Array CpInfo := pool [(1, .class_ 2), (0, u "java/io/Serializable"), (0, .class_ 4), (0, u "java/lang/Object")] 2

/-- java/io/Serializable -/
def k2 : Class := { plain "java/io/Serializable" (some 0) with
  accessFlags := 1537
  interfaces := #[]
  cf := some (fileOf pool2 1 #[] #[] 1537 3 #[] #[])
  fields := #[]
  methods := #[]
  instanceTypes := #[]
  staticTypes := #[]
  resolved := Array.replicate 7 none
  statics := none }

def pool3 : Array CpInfo := pool [(1, .class_ 2), (0, u "java/lang/Comparable"), (0, .class_ 4), (0, u "java/lang/Object")] 7

/-- java/lang/Comparable -/
def k3 : Class := { plain "java/lang/Comparable" (some 0) with
  accessFlags := 1537
  interfaces := #[]
  cf := some (fileOf pool3 1 #[] #[] 1537 3 #[] #[])
  fields := #[]
  methods := #[]
  instanceTypes := #[]
  staticTypes := #[]
  resolved := Array.replicate 12 none
  statics := none }

def pool4 : Array CpInfo := pool [(2, .class_ 4), (1, u "java/lang/CharSequence"), (42, .class_ 48), (0, u "java/lang/CharSequence$1CodePointIterator"), (10, .class_ 60), (0, u "java/lang/CharSequence$1CharIterator"), (5, .class_ 67), (0, u "java/lang/Object")] 63

/-- java/lang/CharSequence -/
def k4 : Class := { plain "java/lang/CharSequence" (some 0) with
  accessFlags := 1537
  interfaces := #[]
  cf := some (fileOf pool4 2 #[.nestMembers #[47, 59]] #[] 1537 66 #[] #[])
  fields := #[]
  methods := #[]
  instanceTypes := #[]
  staticTypes := #[]
  resolved := Array.replicate 131 none
  statics := none }

def pool5 : Array CpInfo := pool [(1, .class_ 2), (0, u "java/lang/constant/Constable"), (0, .class_ 4), (0, u "java/lang/Object")] 6

/-- java/lang/constant/Constable -/
def k5 : Class := { plain "java/lang/constant/Constable" (some 0) with
  accessFlags := 1537
  interfaces := #[]
  cf := some (fileOf pool5 1 #[] #[] 1537 3 #[] #[])
  fields := #[]
  methods := #[]
  instanceTypes := #[]
  staticTypes := #[]
  resolved := Array.replicate 11 none
  statics := none }

def pool6 : Array CpInfo := pool [(1, .class_ 2), (0, u "java/lang/constant/ConstantDesc"), (0, .class_ 4), (0, u "java/lang/Object")] 32

/-- java/lang/constant/ConstantDesc -/
def k6 : Class := { plain "java/lang/constant/ConstantDesc" (some 0) with
  accessFlags := 1537
  interfaces := #[]
  cf := some (fileOf pool6 1 #[] #[] 1537 3 #[] #[])
  fields := #[]
  methods := #[]
  instanceTypes := #[]
  staticTypes := #[]
  resolved := Array.replicate 37 none
  statics := none }

def pool7 : Array CpInfo := pool [(1, .methodref 2 3), (0, .class_ 4), (0, .nameAndType 5 6), (0, u "java/lang/Object"), (0, u "<init>"), (0, u "()V"), (2, .fieldref 10 11), (0, .class_ 12), (0, .nameAndType 13 14), (0, u "java/lang/String"), (0, u "value"), (0, u "[B"), (0, .fieldref 10 16), (0, .nameAndType 17 18), (0, u "coder"), (0, u "B"), (2, u "hash"), (0, u "I"), (2, u "hashIsZero"), (0, u "Z"), (11, .fieldref 10 39), (0, .nameAndType 40 26), (0, u "COMPACT_STRINGS"), (12, u "toBytes"), (53, .class_ 109), (1, u "java/lang/StringLatin1"), (32, u "()Z"), (66, .methodref 10 210), (0, .nameAndType 5 211), (0, u "([BB)V"), (157, u "(C)Z"), (171, .methodref 107 542), (0, .nameAndType 543 544), (0, u "equals"), (0, u "([B[B)Z"), (28, u "(Ljava/lang/Object;)Z"), (1, .class_ 576), (0, u "java/lang/CharSequence"), (22, u "CASE_INSENSITIVE_ORDER"), (0, u "Ljava/util/Comparator;"), (91, u "isEmpty"), (89, u "valueOf"), (0, u "(C)Ljava/lang/String;"), (231, .methodref 107 1016), (0, .nameAndType 1017 369), (0, u "canEncode"), (0, .methodref 107 1019), (0, .nameAndType 53 1020), (0, u "(C)[B"), (80, u "serialPersistentFields"), (0, u "[Ljava/io/ObjectStreamField;"), (0, .class_ 1104), (0, u "java/lang/String$CaseInsensitiveComparator"), (1, .class_ 1107), (0, u "java/io/Serializable"), (0, .class_ 1109), (0, u "java/lang/Comparable"), (0, .class_ 1111), (0, u "java/lang/constant/Constable"), (0, .class_ 1113), (0, u "java/lang/constant/ConstantDesc"), (2, u "serialVersionUID"), (0, u "J"), (3, u "REPL"), (0, u "C"), (2, u "LATIN1"), (1, u "UTF16")] 323

def k7m0 : Method := { name := "<init>", desc := "()V", sig := { parameters := [], returnType := none }, accessFlags := 1, code := none }
def k7c1 : Code := { maxStack := 1, maxLocals := 1, code := jdk_42_method_55_code, exceptionTable := #[], attributes := #[] }
def k7m1 : Method := { name := "isEmpty", desc := "()Z", sig := { parameters := [], returnType := some .boolean }, accessFlags := 1, code := some k7c1 }
def k7c2 : Code := { maxStack := 2, maxLocals := 3, code := jdk_42_method_66_code, exceptionTable := #[], attributes := #[] }
def k7m2 : Method := { name := "equals", desc := "(Ljava/lang/Object;)Z", sig := { parameters := [(.object "java/lang/Object")], returnType := some .boolean }, accessFlags := 1, code := some k7c2 }
def k7c3 : Code := { maxStack := 4, maxLocals := 1, code := jdk_42_method_139_code, exceptionTable := #[], attributes := #[] }
def k7m3 : Method := { name := "valueOf", desc := "(C)Ljava/lang/String;", sig := { parameters := [.char], returnType := some (.object "java/lang/String") }, accessFlags := 9, code := some k7c3 }
def k7c4 : Code := { maxStack := 2, maxLocals := 3, code := jdk_42_method_151_code, exceptionTable := #[], attributes := #[] }
def k7m4 : Method := { name := "<init>", desc := "([BB)V", sig := { parameters := [(.array .byte), .byte], returnType := none }, accessFlags := 0, code := some k7c4 }
/-- java/lang/String -/
def k7 : Class := { plain "java/lang/String" (some 0) with
  accessFlags := 49
  interfaces := #[2, 3, 4, 5, 6]
  cf := some (fileOf pool7 10 #[.nestMembers #[1103]] #[{ accessFlags := 1, nameIndex := 5, descriptorIndex := 6, attributes := #[] }, { accessFlags := 1, nameIndex := 692, descriptorIndex := 142, attributes := #[] }, { accessFlags := 1, nameIndex := 543, descriptorIndex := 573, attributes := #[] }, { accessFlags := 9, nameIndex := 782, descriptorIndex := 783, attributes := #[] }, { accessFlags := 0, nameIndex := 5, descriptorIndex := 211, attributes := #[] }] 49 2 #[1106, 1108, 575, 1110, 1112] #[{ accessFlags := 18, nameIndex := 13, descriptorIndex := 14, attributes := #[] }, { accessFlags := 18, nameIndex := 17, descriptorIndex := 18, attributes := #[] }, { accessFlags := 2, nameIndex := 21, descriptorIndex := 22, attributes := #[] }, { accessFlags := 2, nameIndex := 25, descriptorIndex := 26, attributes := #[] }, { accessFlags := 26, nameIndex := 1116, descriptorIndex := 1117, attributes := #[] }, { accessFlags := 24, nameIndex := 40, descriptorIndex := 26, attributes := #[] }, { accessFlags := 26, nameIndex := 1101, descriptorIndex := 1102, attributes := #[] }, { accessFlags := 26, nameIndex := 1121, descriptorIndex := 1122, attributes := #[] }, { accessFlags := 25, nameIndex := 599, descriptorIndex := 600, attributes := #[] }, { accessFlags := 24, nameIndex := 1125, descriptorIndex := 18, attributes := #[] }, { accessFlags := 24, nameIndex := 1127, descriptorIndex := 18, attributes := #[] }])
  fields := #[{ name := "value", type := (.array .byte), accessFlags := 18, slot := 0, constantValue := 0 }, { name := "coder", type := .byte, accessFlags := 18, slot := 1, constantValue := 0 }, { name := "hash", type := .int, accessFlags := 2, slot := 2, constantValue := 0 }, { name := "hashIsZero", type := .boolean, accessFlags := 2, slot := 3, constantValue := 0 }, { name := "serialVersionUID", type := .long, accessFlags := 26, slot := 0, constantValue := 0 }, { name := "COMPACT_STRINGS", type := .boolean, accessFlags := 24, slot := 1, constantValue := 0 }, { name := "serialPersistentFields", type := (.array (.object "java/io/ObjectStreamField")), accessFlags := 26, slot := 2, constantValue := 0 }, { name := "REPL", type := .char, accessFlags := 26, slot := 3, constantValue := 0 }, { name := "CASE_INSENSITIVE_ORDER", type := (.object "java/util/Comparator"), accessFlags := 25, slot := 4, constantValue := 0 }, { name := "LATIN1", type := .byte, accessFlags := 24, slot := 5, constantValue := 0 }, { name := "UTF16", type := .byte, accessFlags := 24, slot := 6, constantValue := 0 }]
  methods := #[k7m0, k7m1, k7m2, k7m3, k7m4]
  instanceTypes := #[(.array .byte), .byte, .int, .boolean]
  staticTypes := #[.long, .boolean, (.array (.object "java/io/ObjectStreamField")), .char, (.object "java/util/Comparator"), .byte, .byte]
  resolved := Array.replicate 1451 none
  statics := some 0 }

def pool8 : Array CpInfo := pool [(4, .class_ 6), (1, u "java/lang/Object"), (0, u "<init>"), (0, u "()V"), (5, .class_ 16), (1, u "java/lang/StringLatin1"), (73, u "canEncode"), (14, u "(C)Z"), (15, u "$assertionsDisabled"), (0, u "Z"), (98, .class_ 223), (1, u "java/lang/StringLatin1$LinesSpliterator"), (57, u "equals"), (0, u "([B[B)Z"), (97, u "toBytes"), (1, u "(C)[B"), (7, .class_ 391), (0, u "java/lang/StringLatin1$CharsSpliterator")] 3

def k8m0 : Method := { name := "<init>", desc := "()V", sig := { parameters := [], returnType := none }, accessFlags := 0, code := none }
def k8c1 : Code := { maxStack := 2, maxLocals := 1, code := jdk_43_method_3_code, exceptionTable := #[], attributes := #[] }
def k8m1 : Method := { name := "canEncode", desc := "(C)Z", sig := { parameters := [.char], returnType := some .boolean }, accessFlags := 9, code := some k8c1 }
def k8c2 : Code := { maxStack := 3, maxLocals := 3, code := jdk_43_method_13_code, exceptionTable := #[], attributes := #[] }
def k8m2 : Method := { name := "equals", desc := "([B[B)Z", sig := { parameters := [(.array .byte), (.array .byte)], returnType := some .boolean }, accessFlags := 9, code := some k8c2 }
def k8c3 : Code := { maxStack := 4, maxLocals := 1, code := jdk_43_method_46_code, exceptionTable := #[], attributes := #[] }
def k8m3 : Method := { name := "toBytes", desc := "(C)[B", sig := { parameters := [.char], returnType := some (.array .byte) }, accessFlags := 9, code := some k8c3 }
/-- java/lang/StringLatin1 -/
def k8 : Class := { plain "java/lang/StringLatin1" (some 0) with
  accessFlags := 48
  interfaces := #[]
  cf := some (fileOf pool8 14 #[.nestMembers #[390, 221]] #[{ accessFlags := 0, nameIndex := 7, descriptorIndex := 8, attributes := #[] }, { accessFlags := 9, nameIndex := 90, descriptorIndex := 105, attributes := #[] }, { accessFlags := 9, nameIndex := 281, descriptorIndex := 282, attributes := #[] }, { accessFlags := 9, nameIndex := 380, descriptorIndex := 382, attributes := #[] }] 48 4 #[] #[{ accessFlags := 4120, nameIndex := 121, descriptorIndex := 122, attributes := #[] }])
  fields := #[{ name := "$assertionsDisabled", type := .boolean, accessFlags := 4120, slot := 0, constantValue := 0 }]
  methods := #[k8m0, k8m1, k8m2, k8m3]
  instanceTypes := #[]
  staticTypes := #[.boolean]
  resolved := Array.replicate 395 none
  statics := none }

def pool9 : Array CpInfo := pool [(1, u "javax/xml/namespace/NamespaceContext"), (0, .class_ 1), (0, u "java/lang/Object"), (0, .class_ 3)] 0

/-- javax/xml/namespace/NamespaceContext -/
def k9 : Class := { plain "javax/xml/namespace/NamespaceContext" (some 0) with
  accessFlags := 1537
  interfaces := #[]
  cf := some (fileOf pool9 2 #[] #[] 1537 4 #[] #[])
  fields := #[]
  methods := #[]
  instanceTypes := #[]
  staticTypes := #[]
  resolved := Array.replicate 5 none
  statics := none }

def pool10 : Array CpInfo := pool [(1, .methodref 2 3), (0, .class_ 4), (0, .nameAndType 5 6), (0, u "java/lang/Object"), (0, u "<init>"), (0, u "()V"), (0, .class_ 8), (0, u "java/lang/String"), (0, .fieldref 10 11), (0, .class_ 12), (0, .nameAndType 13 14), (0, u "com/example/shapelint/shapelint/reader/Namespaces"), (0, u "prefixes"), (0, u "[Ljava/lang/String;"), (0, .fieldref 10 16), (0, .nameAndType 17 14), (0, u "uris"), (0, .fieldref 10 19), (0, .nameAndType 20 21), (0, u "starts"), (0, u "[I"), (2, .string 25), (0, u "xml"), (0, .string 27), (0, u "http://www.w3.org/XML/1998/namespace"), (0, .methodref 10 29), (0, .nameAndType 30 31), (0, u "bind"), (0, u "(Ljava/lang/String;Ljava/lang/String;)V"), (0, .string 33), (0, u ""), (0, .fieldref 10 35), (0, .nameAndType 36 37), (0, u "depth"), (0, u "I"), (6, .fieldref 10 45), (0, .nameAndType 46 37), (0, u "count"), (4, .methodref 7 52), (0, .nameAndType 53 54), (0, u "equals"), (0, u "(Ljava/lang/Object;)Z"), (19, u "getNamespaceURI"), (0, u "(Ljava/lang/String;)Ljava/lang/String;"), (12, .class_ 89), (0, u "javax/xml/namespace/NamespaceContext"), (2, u "open"), (1, u "close")] 5

def k10c0 : Code := { maxStack := 3, maxLocals := 1, code := prog_110_method_1_code, exceptionTable := #[], attributes := #[] }
def k10m0 : Method := { name := "<init>", desc := "()V", sig := { parameters := [], returnType := none }, accessFlags := 0, code := some k10c0 }
def k10c1 : Code := { maxStack := 5, maxLocals := 1, code := prog_110_method_2_code, exceptionTable := #[], attributes := #[] }
def k10m1 : Method := { name := "open", desc := "()V", sig := { parameters := [], returnType := none }, accessFlags := 0, code := some k10c1 }
def k10c2 : Code := { maxStack := 3, maxLocals := 2, code := prog_110_method_3_code, exceptionTable := #[], attributes := #[] }
def k10m2 : Method := { name := "close", desc := "()V", sig := { parameters := [], returnType := none }, accessFlags := 0, code := some k10c2 }
def k10c3 : Code := { maxStack := 4, maxLocals := 3, code := prog_110_method_4_code, exceptionTable := #[], attributes := #[] }
def k10m3 : Method := { name := "bind", desc := "(Ljava/lang/String;Ljava/lang/String;)V", sig := { parameters := [(.object "java/lang/String"), (.object "java/lang/String")], returnType := none }, accessFlags := 0, code := some k10c3 }
def k10c4 : Code := { maxStack := 2, maxLocals := 3, code := prog_110_method_5_code, exceptionTable := #[], attributes := #[] }
def k10m4 : Method := { name := "getNamespaceURI", desc := "(Ljava/lang/String;)Ljava/lang/String;", sig := { parameters := [(.object "java/lang/String")], returnType := some (.object "java/lang/String") }, accessFlags := 1, code := some k10c4 }
/-- com/example/shapelint/shapelint/reader/Namespaces -/
def k10 : Class := { plain "com/example/shapelint/shapelint/reader/Namespaces" (some 0) with
  accessFlags := 32
  interfaces := #[9]
  cf := some (fileOf pool10 10 #[] #[{ accessFlags := 0, nameIndex := 5, descriptorIndex := 6, attributes := #[] }, { accessFlags := 0, nameIndex := 92, descriptorIndex := 6, attributes := #[] }, { accessFlags := 0, nameIndex := 94, descriptorIndex := 6, attributes := #[] }, { accessFlags := 0, nameIndex := 30, descriptorIndex := 31, attributes := #[] }, { accessFlags := 1, nameIndex := 74, descriptorIndex := 75, attributes := #[] }] 32 2 #[88] #[{ accessFlags := 2, nameIndex := 13, descriptorIndex := 14, attributes := #[] }, { accessFlags := 2, nameIndex := 17, descriptorIndex := 14, attributes := #[] }, { accessFlags := 2, nameIndex := 46, descriptorIndex := 37, attributes := #[] }, { accessFlags := 2, nameIndex := 20, descriptorIndex := 21, attributes := #[] }, { accessFlags := 2, nameIndex := 36, descriptorIndex := 37, attributes := #[] }])
  fields := #[{ name := "prefixes", type := (.array (.object "java/lang/String")), accessFlags := 2, slot := 0, constantValue := 0 }, { name := "uris", type := (.array (.object "java/lang/String")), accessFlags := 2, slot := 1, constantValue := 0 }, { name := "count", type := .int, accessFlags := 2, slot := 2, constantValue := 0 }, { name := "starts", type := (.array .int), accessFlags := 2, slot := 3, constantValue := 0 }, { name := "depth", type := .int, accessFlags := 2, slot := 4, constantValue := 0 }]
  methods := #[k10m0, k10m1, k10m2, k10m3, k10m4]
  instanceTypes := #[(.array (.object "java/lang/String")), (.array (.object "java/lang/String")), .int, (.array .int), .int]
  staticTypes := #[]
  resolved := Array.replicate 100 none
  statics := none }

def pool11 : Array CpInfo := pool [(2, .class_ 4), (1, u "java/lang/Object"), (0, u "<init>"), (0, u "()V"), (17, .class_ 26), (1, u "jdk/internal/util/Preconditions"), (28, .class_ 56), (0, u "jdk/internal/util/Preconditions$4"), (57, .class_ 115), (0, u "jdk/internal/util/Preconditions$1"), (7, u "SIOOBE_FORMATTER"), (0, u "Ljava/util/function/BiFunction;"), (0, .class_ 126), (0, u "jdk/internal/util/Preconditions$2"), (3, u "AIOOBE_FORMATTER"), (0, .class_ 132), (0, u "jdk/internal/util/Preconditions$3"), (3, u "IOOBE_FORMATTER")] 57

def k11m0 : Method := { name := "<init>", desc := "()V", sig := { parameters := [], returnType := none }, accessFlags := 1, code := none }
/-- jdk/internal/util/Preconditions -/
def k11 : Class := { plain "jdk/internal/util/Preconditions" (some 0) with
  accessFlags := 33
  interfaces := #[]
  cf := some (fileOf pool11 24 #[.nestMembers #[55, 131, 125, 114]] #[{ accessFlags := 1, nameIndex := 5, descriptorIndex := 6, attributes := #[] }] 33 2 #[] #[{ accessFlags := 25, nameIndex := 123, descriptorIndex := 124, attributes := #[] }, { accessFlags := 25, nameIndex := 130, descriptorIndex := 124, attributes := #[] }, { accessFlags := 25, nameIndex := 136, descriptorIndex := 124, attributes := #[] }])
  fields := #[{ name := "SIOOBE_FORMATTER", type := (.object "java/util/function/BiFunction"), accessFlags := 25, slot := 0, constantValue := 0 }, { name := "AIOOBE_FORMATTER", type := (.object "java/util/function/BiFunction"), accessFlags := 25, slot := 1, constantValue := 0 }, { name := "IOOBE_FORMATTER", type := (.object "java/util/function/BiFunction"), accessFlags := 25, slot := 2, constantValue := 0 }]
  methods := #[k11m0]
  instanceTypes := #[]
  staticTypes := #[(.object "java/util/function/BiFunction"), (.object "java/util/function/BiFunction"), (.object "java/util/function/BiFunction")]
  resolved := Array.replicate 194 none
  statics := some 1 }

def pool12 : Array CpInfo := pool [(9, u "<init>"), (6, .class_ 18), (1, u "java/lang/Object"), (0, u "()V"), (1, .class_ 23), (1, u "jdk/internal/util/ArraysSupport"), (0, u "LOG2_ARRAY_LONG_INDEX_SCALE"), (0, u "I"), (2, u "U"), (0, u "Ljdk/internal/misc/Unsafe;"), (8, u "BIG_ENDIAN"), (0, u "Z"), (8, u "LOG2_BYTE_BIT_SIZE"), (4, u "LOG2_ARRAY_INT_INDEX_SCALE"), (54, u "JLA"), (0, u "Ljdk/internal/access/JavaLangAccess;"), (11, u "LOG2_ARRAY_BOOLEAN_INDEX_SCALE"), (9, u "LOG2_ARRAY_BYTE_INDEX_SCALE"), (5, u "LOG2_ARRAY_CHAR_INDEX_SCALE"), (5, u "LOG2_ARRAY_SHORT_INDEX_SCALE"), (18, u "LOG2_ARRAY_FLOAT_INDEX_SCALE"), (24, u "LOG2_ARRAY_DOUBLE_INDEX_SCALE"), (89, u "T_BOOLEAN"), (2, u "T_CHAR"), (1, u "T_FLOAT"), (1, u "T_DOUBLE"), (1, u "T_BYTE"), (1, u "T_SHORT"), (1, u "T_INT"), (1, u "T_LONG"), (1, u "SOFT_MAX_ARRAY_LENGTH")] 83

def k12m0 : Method := { name := "<init>", desc := "()V", sig := { parameters := [], returnType := none }, accessFlags := 2, code := none }
/-- jdk/internal/util/ArraysSupport -/
def k12 : Class := { plain "jdk/internal/util/ArraysSupport" (some 0) with
  accessFlags := 33
  interfaces := #[]
  cf := some (fileOf pool12 21 #[] #[{ accessFlags := 2, nameIndex := 9, descriptorIndex := 19, attributes := #[] }] 33 16 #[] #[{ accessFlags := 24, nameIndex := 28, descriptorIndex := 29, attributes := #[] }, { accessFlags := 26, nameIndex := 38, descriptorIndex := 39, attributes := #[] }, { accessFlags := 25, nameIndex := 121, descriptorIndex := 25, attributes := #[] }, { accessFlags := 25, nameIndex := 131, descriptorIndex := 25, attributes := #[] }, { accessFlags := 25, nameIndex := 137, descriptorIndex := 25, attributes := #[] }, { accessFlags := 25, nameIndex := 143, descriptorIndex := 25, attributes := #[] }, { accessFlags := 25, nameIndex := 53, descriptorIndex := 25, attributes := #[] }, { accessFlags := 25, nameIndex := 24, descriptorIndex := 25, attributes := #[] }, { accessFlags := 25, nameIndex := 162, descriptorIndex := 25, attributes := #[] }, { accessFlags := 25, nameIndex := 187, descriptorIndex := 25, attributes := #[] }, { accessFlags := 26, nameIndex := 48, descriptorIndex := 25, attributes := #[] }, { accessFlags := 25, nameIndex := 277, descriptorIndex := 25, attributes := #[] }, { accessFlags := 25, nameIndex := 280, descriptorIndex := 25, attributes := #[] }, { accessFlags := 25, nameIndex := 282, descriptorIndex := 25, attributes := #[] }, { accessFlags := 25, nameIndex := 284, descriptorIndex := 25, attributes := #[] }, { accessFlags := 25, nameIndex := 286, descriptorIndex := 25, attributes := #[] }, { accessFlags := 25, nameIndex := 288, descriptorIndex := 25, attributes := #[] }, { accessFlags := 25, nameIndex := 290, descriptorIndex := 25, attributes := #[] }, { accessFlags := 25, nameIndex := 292, descriptorIndex := 25, attributes := #[] }, { accessFlags := 26, nameIndex := 108, descriptorIndex := 109, attributes := #[] }, { accessFlags := 25, nameIndex := 294, descriptorIndex := 25, attributes := #[] }])
  fields := #[{ name := "U", type := (.object "jdk/internal/misc/Unsafe"), accessFlags := 24, slot := 0, constantValue := 0 }, { name := "BIG_ENDIAN", type := .boolean, accessFlags := 26, slot := 1, constantValue := 0 }, { name := "LOG2_ARRAY_BOOLEAN_INDEX_SCALE", type := .int, accessFlags := 25, slot := 2, constantValue := 0 }, { name := "LOG2_ARRAY_BYTE_INDEX_SCALE", type := .int, accessFlags := 25, slot := 3, constantValue := 0 }, { name := "LOG2_ARRAY_CHAR_INDEX_SCALE", type := .int, accessFlags := 25, slot := 4, constantValue := 0 }, { name := "LOG2_ARRAY_SHORT_INDEX_SCALE", type := .int, accessFlags := 25, slot := 5, constantValue := 0 }, { name := "LOG2_ARRAY_INT_INDEX_SCALE", type := .int, accessFlags := 25, slot := 6, constantValue := 0 }, { name := "LOG2_ARRAY_LONG_INDEX_SCALE", type := .int, accessFlags := 25, slot := 7, constantValue := 0 }, { name := "LOG2_ARRAY_FLOAT_INDEX_SCALE", type := .int, accessFlags := 25, slot := 8, constantValue := 0 }, { name := "LOG2_ARRAY_DOUBLE_INDEX_SCALE", type := .int, accessFlags := 25, slot := 9, constantValue := 0 }, { name := "LOG2_BYTE_BIT_SIZE", type := .int, accessFlags := 26, slot := 10, constantValue := 0 }, { name := "T_BOOLEAN", type := .int, accessFlags := 25, slot := 11, constantValue := 0 }, { name := "T_CHAR", type := .int, accessFlags := 25, slot := 12, constantValue := 0 }, { name := "T_FLOAT", type := .int, accessFlags := 25, slot := 13, constantValue := 0 }, { name := "T_DOUBLE", type := .int, accessFlags := 25, slot := 14, constantValue := 0 }, { name := "T_BYTE", type := .int, accessFlags := 25, slot := 15, constantValue := 0 }, { name := "T_SHORT", type := .int, accessFlags := 25, slot := 16, constantValue := 0 }, { name := "T_INT", type := .int, accessFlags := 25, slot := 17, constantValue := 0 }, { name := "T_LONG", type := .int, accessFlags := 25, slot := 18, constantValue := 0 }, { name := "JLA", type := (.object "jdk/internal/access/JavaLangAccess"), accessFlags := 26, slot := 19, constantValue := 0 }, { name := "SOFT_MAX_ARRAY_LENGTH", type := .int, accessFlags := 25, slot := 20, constantValue := 0 }]
  methods := #[k12m0]
  instanceTypes := #[]
  staticTypes := #[(.object "jdk/internal/misc/Unsafe"), .boolean, .int, .int, .int, .int, .int, .int, .int, .int, .int, .int, .int, .int, .int, .int, .int, .int, .int, (.object "jdk/internal/access/JavaLangAccess"), .int]
  resolved := Array.replicate 378 none
  statics := none }

def pool13 : Array CpInfo := pool [(1, u "java/lang/Cloneable"), (0, .class_ 1), (0, u "java/lang/Object"), (0, .class_ 3)] 3

/-- java/lang/Cloneable -/
def k13 : Class := { plain "java/lang/Cloneable" (some 0) with
  accessFlags := 1537
  interfaces := #[]
  cf := some (fileOf pool13 2 #[] #[] 1537 4 #[] #[])
  fields := #[]
  methods := #[]
  instanceTypes := #[]
  staticTypes := #[]
  resolved := Array.replicate 8 none
  statics := none }

/-- the primitive byte -/
def k14 : Class := { plain "byte" none with kind := .primitive 'B', accessFlags := 0x411 }
/-- [B -/
def k15 : Class := { plain "[B" (some 0) with kind := .array 14 .byte, interfaces := #[13, 2], accessFlags := 1041 }

/-- the primitive int -/
def k16 : Class := { plain "int" none with kind := .primitive 'I', accessFlags := 0x411 }
/-- [I -/
def k17 : Class := { plain "[I" (some 0) with kind := .array 16 .int, interfaces := #[13, 2], accessFlags := 1041 }

/-- [Ljava/lang/String; -/
def k18 : Class := { plain "[Ljava/lang/String;" (some 0) with kind := .array 7 (.object "java/lang/String"), interfaces := #[13, 2], accessFlags := 1041 }

def heap : Heap := #[{ cls := 7, slots := #[.long 0, .int 1, .null, .int 0, .null, .int 0, .int 0], vm := .statics 7 },
  { cls := 11, slots := #[.null, .null, .null], vm := .statics 11 }]
def classes : Array Class := #[k0, k1, k2, k3, k4, k5, k6, k7, k8, k9, k10, k11, k12, k13, k14, k15, k16, k17, k18]
def interned : List (Array UInt16 × Addr) := []
def slotsUsed : Nat := 10
def theMethod : MethodId := ⟨1, 4⟩
def args0 : Array Value := #[.int 5, .int 97, .int 256, .int 98, .int 600, .int 7]
def aboutOver (below : List Frame) : State where
  vm := { classes := classes, interned := interned.toArray }
  heap := heap
  slotsUsed := slotsUsed
  threads := #[{ frames := .invoking theMethod args0 :: below }]
def below0 : List Frame := [.native { method := ⟨0, 0⟩, args := #[] }]
def about1 : State := aboutOver below0
def p0 : Program := .bare "" "" ""
def e0 : Env := launch0.env 0 0 0
theorem w_frames : about1.frames = Frame.invoking theMethod args0 :: below0 := rfl
set_option maxRecDepth 65536 in
theorem w_args : argsFit about1.vm theMethod args0 = true := by decide +kernel
set_option maxRecDepth 65536 in
theorem w_heap : heapFits about1 = true := by decide +kernel
set_option maxRecDepth 65536 in
theorem w_runnable : about1.curStatus? = some .runnable := by decide +kernel
set_option maxRecDepth 65536 in
theorem w_alone : about1.alone = true := by decide +kernel
set_option maxRecDepth 65536 in
theorem w_named : about1.methodNamed? x = some theMethod := by decide +kernel
set_option maxRecDepth 65536 in
theorem w_hears : about1.hears theMethod below0 = true := by decide +kernel
set_option maxRecDepth 65536 in
theorem w_ripe : about1.ripe theMethod args0 below0 = true := by decide +kernel
theorem w_running : about1.status = .running := rfl
set_option maxRecDepth 65536 in
theorem w_room : about1.hasRoom e0.platform room_1 = true :=
  launch0.hasRoom_least _ room_1 (by decide +kernel) (by decide +kernel) (by decide +kernel) (by decide +kernel) (by decide +kernel) (by decide +kernel)
theorem allAtoms_all (ts : List Jvm.Cond) (a : Array Jvm.Value) (st : Jvm.State) : (allAtoms ts).before a st = ts.all (fun c => c.before a st) := by
  induction ts with
  | nil => rfl
  | cons c t ih =>
    show (Jvm.Cond.and c (allAtoms t)).before a st = _
    rw [Jvm.Cond.before_and, ih, List.all_cons]
def words1 : List Jvm.Cond := Jvm.Cond.code x code maxLocals ret :: tables_1
/-- a 'code' word, met by the world's own term for the bytes: nothing is compared byte by byte -/
theorem code_word {y : MethodName} {bytes : ByteArray} {mx : Nat} {rt : Option FieldType} {a : Array Value} {s : State} {m : MethodId} {meth : Method} {c : Code} (h1 : s.methodNamed? y = some m) (h2 : s.vm.method? m = some meth) (h3 : meth.code = some c) (h4 : c.code = bytes)
    (h5 : (c.maxLocals == mx && c.exceptionTable.isEmpty && decide (c.maxStack ≤ mostOperands) && decide (meth.sig.returnType = rt) && !meth.locks && decide (parseMethodDescriptor y.desc = some meth.sig)) = true) : (Jvm.Cond.code y bytes mx rt).before a s = true := by
  simp only [Bool.and_eq_true, beq_iff_eq, Bool.not_eq_true', decide_eq_true_eq] at h5
  obtain ⟨⟨⟨⟨⟨g1, g2⟩, g3⟩, g4⟩, g5⟩, g6⟩ := h5
  simp [Cond.before, Cond.holds, Cond.value, h1, h2, h3, h4, g1, g2, g3, g4, g5, g6]
def isCode : Jvm.Cond → Bool
  | .code _ _ _ _ => true
  | _ => false
theorem all_split {L : List Jvm.Cond} {P : Jvm.Cond → Bool} (h1 : L.all (fun c => isCode c || P c) = true) (h2 : ∀ c ∈ L.filter isCode, P c = true) : L.all P = true := by
  refine List.all_eq_true.mpr fun c hc => ?_
  have h := List.all_eq_true.mp h1 c hc
  rcases Bool.eq_false_or_eq_true (isCode c) with hi | hi
  · exact h2 c (List.mem_filter.mpr ⟨hc, hi⟩)
  · simpa [hi] using h
set_option maxRecDepth 65536 in
theorem w_c0 : (Jvm.Cond.code x code maxLocals ret).before args0 about1 = true := code_word (m := ⟨1, 4⟩) (meth := k1m4) (c := k1c4) (by decide +kernel) rfl rfl rfl (by decide +kernel)
set_option maxRecDepth 65536 in
theorem w_c1 : (Jvm.Cond.code ({ cls := "com/example/shapelint/shapelint/reader/NamespacesClosePinLaw", name := "prefix", desc := "(I)Ljava/lang/String;" } : Jvm.MethodName) method_2_code (2 : Nat) (Option.some (Jvm.ClassFile.FieldType.object "java/lang/String"))).before args0 about1 = true := code_word (m := ⟨1, 1⟩) (meth := k1m1) (c := k1c1) (by decide +kernel) rfl rfl rfl (by decide +kernel)
set_option maxRecDepth 65536 in
theorem w_c2 : (Jvm.Cond.code ({ cls := "java/lang/String", name := "valueOf", desc := "(C)Ljava/lang/String;" } : Jvm.MethodName) jdk_42_method_139_code (1 : Nat) (Option.some (Jvm.ClassFile.FieldType.object "java/lang/String"))).before args0 about1 = true := code_word (m := ⟨7, 3⟩) (meth := k7m3) (c := k7c3) (by decide +kernel) rfl rfl rfl (by decide +kernel)
set_option maxRecDepth 65536 in
theorem w_c3 : (Jvm.Cond.code ({ cls := "java/lang/StringLatin1", name := "canEncode", desc := "(C)Z" } : Jvm.MethodName) jdk_43_method_3_code (1 : Nat) (Option.some Jvm.ClassFile.FieldType.boolean)).before args0 about1 = true := code_word (m := ⟨8, 1⟩) (meth := k8m1) (c := k8c1) (by decide +kernel) rfl rfl rfl (by decide +kernel)
set_option maxRecDepth 65536 in
theorem w_c4 : (Jvm.Cond.code ({ cls := "java/lang/StringLatin1", name := "toBytes", desc := "(C)[B" } : Jvm.MethodName) jdk_43_method_46_code (1 : Nat) (Option.some (Jvm.ClassFile.FieldType.array Jvm.ClassFile.FieldType.byte))).before args0 about1 = true := code_word (m := ⟨8, 3⟩) (meth := k8m3) (c := k8c3) (by decide +kernel) rfl rfl rfl (by decide +kernel)
set_option maxRecDepth 65536 in
theorem w_c5 : (Jvm.Cond.code ({ cls := "java/lang/String", name := "<init>", desc := "([BB)V" } : Jvm.MethodName) jdk_42_method_151_code (3 : Nat) (Option.none : Option Jvm.ClassFile.FieldType)).before args0 about1 = true := code_word (m := ⟨7, 4⟩) (meth := k7m4) (c := k7c4) (by decide +kernel) rfl rfl rfl (by decide +kernel)
set_option maxRecDepth 65536 in
theorem w_c6 : (Jvm.Cond.code ({ cls := "java/lang/Object", name := "<init>", desc := "()V" } : Jvm.MethodName) object_method_1_code (1 : Nat) (Option.none : Option Jvm.ClassFile.FieldType)).before args0 about1 = true := code_word (m := ⟨0, 0⟩) (meth := k0m0) (c := k0c0) (by decide +kernel) rfl rfl rfl (by decide +kernel)
set_option maxRecDepth 65536 in
theorem w_c7 : (Jvm.Cond.code ({ cls := "com/example/shapelint/shapelint/reader/Namespaces", name := "<init>", desc := "()V" } : Jvm.MethodName) prog_110_method_1_code (1 : Nat) (Option.none : Option Jvm.ClassFile.FieldType)).before args0 about1 = true := code_word (m := ⟨10, 0⟩) (meth := k10m0) (c := k10c0) (by decide +kernel) rfl rfl rfl (by decide +kernel)
set_option maxRecDepth 65536 in
theorem w_c8 : (Jvm.Cond.code ({ cls := "com/example/shapelint/shapelint/reader/Namespaces", name := "bind", desc := "(Ljava/lang/String;Ljava/lang/String;)V" } : Jvm.MethodName) prog_110_method_4_code (3 : Nat) (Option.none : Option Jvm.ClassFile.FieldType)).before args0 about1 = true := code_word (m := ⟨10, 3⟩) (meth := k10m3) (c := k10c3) (by decide +kernel) rfl rfl rfl (by decide +kernel)
set_option maxRecDepth 65536 in
theorem w_c9 : (Jvm.Cond.code ({ cls := "com/example/shapelint/shapelint/reader/Namespaces", name := "open", desc := "()V" } : Jvm.MethodName) prog_110_method_2_code (1 : Nat) (Option.none : Option Jvm.ClassFile.FieldType)).before args0 about1 = true := code_word (m := ⟨10, 1⟩) (meth := k10m1) (c := k10c1) (by decide +kernel) rfl rfl rfl (by decide +kernel)
set_option maxRecDepth 65536 in
theorem w_c10 : (Jvm.Cond.code ({ cls := "com/example/shapelint/shapelint/reader/Namespaces", name := "close", desc := "()V" } : Jvm.MethodName) prog_110_method_3_code (2 : Nat) (Option.none : Option Jvm.ClassFile.FieldType)).before args0 about1 = true := code_word (m := ⟨10, 2⟩) (meth := k10m2) (c := k10c2) (by decide +kernel) rfl rfl rfl (by decide +kernel)
set_option maxRecDepth 65536 in
theorem w_c11 : (Jvm.Cond.code ({ cls := "com/example/shapelint/shapelint/reader/Namespaces", name := "getNamespaceURI", desc := "(Ljava/lang/String;)Ljava/lang/String;" } : Jvm.MethodName) prog_110_method_5_code (3 : Nat) (Option.some (Jvm.ClassFile.FieldType.object "java/lang/String"))).before args0 about1 = true := code_word (m := ⟨10, 4⟩) (meth := k10m4) (c := k10c4) (by decide +kernel) rfl rfl rfl (by decide +kernel)
set_option maxRecDepth 65536 in
theorem w_c12 : (Jvm.Cond.code ({ cls := "java/lang/String", name := "equals", desc := "(Ljava/lang/Object;)Z" } : Jvm.MethodName) jdk_42_method_66_code (3 : Nat) (Option.some Jvm.ClassFile.FieldType.boolean)).before args0 about1 = true := code_word (m := ⟨7, 2⟩) (meth := k7m2) (c := k7c2) (by decide +kernel) rfl rfl rfl (by decide +kernel)
set_option maxRecDepth 65536 in
theorem w_c13 : (Jvm.Cond.code ({ cls := "com/example/shapelint/shapelint/reader/NamespacesClosePinLaw", name := "expected", desc := "(ZLjava/lang/String;Ljava/lang/String;Ljava/lang/String;)Ljava/lang/String;" } : Jvm.MethodName) method_3_code (4 : Nat) (Option.some (Jvm.ClassFile.FieldType.object "java/lang/String"))).before args0 about1 = true := code_word (m := ⟨1, 2⟩) (meth := k1m2) (c := k1c2) (by decide +kernel) rfl rfl rfl (by decide +kernel)
set_option maxRecDepth 65536 in
theorem w_c14 : (Jvm.Cond.code ({ cls := "com/example/shapelint/shapelint/reader/NamespacesClosePinLaw", name := "same", desc := "(Ljava/lang/String;Ljava/lang/String;)Z" } : Jvm.MethodName) method_4_code (2 : Nat) (Option.some Jvm.ClassFile.FieldType.boolean)).before args0 about1 = true := code_word (m := ⟨1, 3⟩) (meth := k1m3) (c := k1c3) (by decide +kernel) rfl rfl rfl (by decide +kernel)
set_option maxRecDepth 65536 in
theorem w_c15 : (Jvm.Cond.code ({ cls := "java/lang/StringLatin1", name := "equals", desc := "([B[B)Z" } : Jvm.MethodName) jdk_43_method_13_code (3 : Nat) (Option.some Jvm.ClassFile.FieldType.boolean)).before args0 about1 = true := code_word (m := ⟨8, 2⟩) (meth := k8m2) (c := k8c2) (by decide +kernel) rfl rfl rfl (by decide +kernel)
set_option maxRecDepth 65536 in
theorem w_c16 : (Jvm.Cond.code ({ cls := "java/lang/String", name := "isEmpty", desc := "()Z" } : Jvm.MethodName) jdk_42_method_55_code (1 : Nat) (Option.some Jvm.ClassFile.FieldType.boolean)).before args0 about1 = true := code_word (m := ⟨7, 1⟩) (meth := k7m1) (c := k7c1) (by decide +kernel) rfl rfl rfl (by decide +kernel)
def codes1 : List Jvm.Cond := [Jvm.Cond.code x code maxLocals ret, Jvm.Cond.code ({ cls := "com/example/shapelint/shapelint/reader/NamespacesClosePinLaw", name := "prefix", desc := "(I)Ljava/lang/String;" } : Jvm.MethodName) method_2_code (2 : Nat) (Option.some (Jvm.ClassFile.FieldType.object "java/lang/String")), Jvm.Cond.code ({ cls := "java/lang/String", name := "valueOf", desc := "(C)Ljava/lang/String;" } : Jvm.MethodName) jdk_42_method_139_code (1 : Nat) (Option.some (Jvm.ClassFile.FieldType.object "java/lang/String")), Jvm.Cond.code ({ cls := "java/lang/StringLatin1", name := "canEncode", desc := "(C)Z" } : Jvm.MethodName) jdk_43_method_3_code (1 : Nat) (Option.some Jvm.ClassFile.FieldType.boolean), Jvm.Cond.code ({ cls := "java/lang/StringLatin1", name := "toBytes", desc := "(C)[B" } : Jvm.MethodName) jdk_43_method_46_code (1 : Nat) (Option.some (Jvm.ClassFile.FieldType.array Jvm.ClassFile.FieldType.byte)), Jvm.Cond.code ({ cls := "java/lang/String", name := "<init>", desc := "([BB)V" } : Jvm.MethodName) jdk_42_method_151_code (3 : Nat) (Option.none : Option Jvm.ClassFile.FieldType), Jvm.Cond.code ({ cls := "java/lang/Object", name := "<init>", desc := "()V" } : Jvm.MethodName) object_method_1_code (1 : Nat) (Option.none : Option Jvm.ClassFile.FieldType), Jvm.Cond.code ({ cls := "com/example/shapelint/shapelint/reader/Namespaces", name := "<init>", desc := "()V" } : Jvm.MethodName) prog_110_method_1_code (1 : Nat) (Option.none : Option Jvm.ClassFile.FieldType), Jvm.Cond.code ({ cls := "com/example/shapelint/shapelint/reader/Namespaces", name := "bind", desc := "(Ljava/lang/String;Ljava/lang/String;)V" } : Jvm.MethodName) prog_110_method_4_code (3 : Nat) (Option.none : Option Jvm.ClassFile.FieldType), Jvm.Cond.code ({ cls := "com/example/shapelint/shapelint/reader/Namespaces", name := "open", desc := "()V" } : Jvm.MethodName) prog_110_method_2_code (1 : Nat) (Option.none : Option Jvm.ClassFile.FieldType), Jvm.Cond.code ({ cls := "com/example/shapelint/shapelint/reader/Namespaces", name := "close", desc := "()V" } : Jvm.MethodName) prog_110_method_3_code (2 : Nat) (Option.none : Option Jvm.ClassFile.FieldType), Jvm.Cond.code ({ cls := "com/example/shapelint/shapelint/reader/Namespaces", name := "getNamespaceURI", desc := "(Ljava/lang/String;)Ljava/lang/String;" } : Jvm.MethodName) prog_110_method_5_code (3 : Nat) (Option.some (Jvm.ClassFile.FieldType.object "java/lang/String")), Jvm.Cond.code ({ cls := "java/lang/String", name := "equals", desc := "(Ljava/lang/Object;)Z" } : Jvm.MethodName) jdk_42_method_66_code (3 : Nat) (Option.some Jvm.ClassFile.FieldType.boolean), Jvm.Cond.code ({ cls := "com/example/shapelint/shapelint/reader/NamespacesClosePinLaw", name := "expected", desc := "(ZLjava/lang/String;Ljava/lang/String;Ljava/lang/String;)Ljava/lang/String;" } : Jvm.MethodName) method_3_code (4 : Nat) (Option.some (Jvm.ClassFile.FieldType.object "java/lang/String")), Jvm.Cond.code ({ cls := "com/example/shapelint/shapelint/reader/NamespacesClosePinLaw", name := "same", desc := "(Ljava/lang/String;Ljava/lang/String;)Z" } : Jvm.MethodName) method_4_code (2 : Nat) (Option.some Jvm.ClassFile.FieldType.boolean), Jvm.Cond.code ({ cls := "java/lang/StringLatin1", name := "equals", desc := "([B[B)Z" } : Jvm.MethodName) jdk_43_method_13_code (3 : Nat) (Option.some Jvm.ClassFile.FieldType.boolean), Jvm.Cond.code ({ cls := "java/lang/String", name := "isEmpty", desc := "()Z" } : Jvm.MethodName) jdk_42_method_55_code (1 : Nat) (Option.some Jvm.ClassFile.FieldType.boolean)]
set_option maxRecDepth 65536 in
theorem codes_eq : words1.filter isCode = codes1 := rfl
theorem w_codes : ∀ c ∈ words1.filter isCode, c.before args0 about1 = true := by
  rw [codes_eq]
  intro c hc
  simp only [codes1, List.mem_cons, List.not_mem_nil, or_false] at hc
  rcases hc with rfl | rfl | rfl | rfl | rfl | rfl | rfl | rfl | rfl | rfl | rfl | rfl | rfl | rfl | rfl | rfl | rfl
  · exact w_c0
  · exact w_c1
  · exact w_c2
  · exact w_c3
  · exact w_c4
  · exact w_c5
  · exact w_c6
  · exact w_c7
  · exact w_c8
  · exact w_c9
  · exact w_c10
  · exact w_c11
  · exact w_c12
  · exact w_c13
  · exact w_c14
  · exact w_c15
  · exact w_c16
set_option maxRecDepth 65536 in
theorem w_t1 : (words1.take 24).all (fun c => isCode c || c.before args0 about1) = true := by decide +kernel
set_option maxRecDepth 65536 in
theorem w_t2 : ((words1.drop 24).take 24).all (fun c => isCode c || c.before args0 about1) = true := by decide +kernel
set_option maxRecDepth 65536 in
theorem w_t3 : (((words1.drop 24).drop 24).take 24).all (fun c => isCode c || c.before args0 about1) = true := by decide +kernel
set_option maxRecDepth 65536 in
theorem w_t4 : ((((words1.drop 24).drop 24).drop 24).take 24).all (fun c => isCode c || c.before args0 about1) = true := by decide +kernel
set_option maxRecDepth 65536 in
theorem w_t5 : ((((words1.drop 24).drop 24).drop 24).drop 24).all (fun c => isCode c || c.before args0 about1) = true := by decide +kernel
theorem w_tables : (allAtoms (Jvm.Cond.code x code maxLocals ret :: tables_1)).before args0 about1 = true := by
  rw [allAtoms_all]
  show words1.all (fun c => c.before args0 about1) = true
  refine all_split ?_ w_codes
  rw [← List.take_append_drop 24 words1, List.all_append, w_t1, ← List.take_append_drop 24 (words1.drop 24), List.all_append, w_t2, ← List.take_append_drop 24 ((words1.drop 24).drop 24), List.all_append, w_t3, ← List.take_append_drop 24 (((words1.drop 24).drop 24).drop 24), List.all_append, w_t4, w_t5]
  rfl
set_option maxRecDepth 65536 in
theorem w_rest : rest_1_c.before args0 about1 = true := by decide +kernel
set_option maxRecDepth 65536 in
theorem w_case : (Jvm.Cond.and given_1 narrow_1).before args0 about1 = true := by decide +kernel
set_option maxRecDepth 65536 in
theorem w_consts : constsHeld consts_1 about1 := Jvm.Lit.constsHeldB_iff.mp (by decide +kernel)
theorem w_applies : (headSpec (Jvm.Cond.code x code maxLocals ret :: tables_1) room_1).applies x e0.platform about1 = true :=
  (Spec.applies_iff w_frames).mpr ⟨w_running, w_runnable, w_alone, w_named, w_hears, w_ripe, w_room, w_tables⟩
theorem atStart : AtStart classFile x code maxLocals ret World_1 tables_1 room_1 Calls_1 rest_1 Pre_1 launch0 p0 e0 about1 theMethod args0 below0 :=
  ⟨lists_1, trivial, launch0.admits_env _ _ _, launch0.least_env, fairChoices_fair.cas, fairChoices_fair.clock, w_frames, w_args, w_heap, w_applies, ⟨w_consts, trivial⟩, w_rest, w_case⟩
end start1
theorem witness_1 : WitnessClaimed_1 := ⟨start1.p0, start1.e0, start1.about1, start1.theMethod, start1.args0, start1.below0, start1.atStart⟩
end Jvm.Pilot.@@N@@
